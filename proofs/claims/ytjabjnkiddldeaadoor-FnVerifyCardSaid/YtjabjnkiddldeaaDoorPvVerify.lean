/- The plain law of FnVerify: good data is well formed. -/
import Derived.Test.YtjabjnkiddldeaaDoorPvGeoVE
import Derived.Test.YtjabjnkiddldeaaDoorPv3
set_option linter.unusedVariables false
set_option linter.unusedSectionVars false
set_option linter.unusedSimpArgs false
namespace Go.Proofs.YtjabjnkiddldeaaDoor.PvVerify
open Go.Av Go
open Go.Proofs.YtjabjnkiddldeaaDoor.VE
open Go.Proofs.YtjabjnkiddldeaaDoor.PvGeoVE
theorem stride_geom (N : Nat) (l : Int) (h : 1 ≤ l) : gogeom_Layout_Stride N l = some (strd l) := by
  simp only [gogeom_Layout_Stride, gogeom_Layout_Stride_g, strd, beq_iff_eq, Bool.cond_eq_ite, apply_ite some]
  repeat' split
  all_goals first | rfl | omega | (subst_vars; rfl) | skip

theorem dvd_tmod {s x : Int} (hs : 0 < s) (h : s ∣ x) : Int.tmod x s = 0 := by
  obtain ⟨q, rfl⟩ := h
  exact Int.mul_tmod_right s q
theorem dvd_next {s a e : Int} (ha : s ∣ a) (h : s ∣ e - a) : s ∣ e := by
  have := Int.dvd_add ha h
  rwa [show a + (e - a) = e by omega] at this
section
variable {N : Nat} (hN : 0 < N) (hNl : 9223372036854775808 ≤ N)
include hN hNl
theorem intss_loop (l : List (List Int)) (hl : l.length * 24 ≤ 140737488355328) (hin : ∀ x ∈ l, x.length * 8 ≤ 140737488355328) : ∀ (c i n : Nat), i + c = l.length → c + 1 ≤ n →
    impl_intss_l0 N n l (i : Int) (l.take i) = some (l, ())
  | 0, i, n, hi, hn => by
    obtain ⟨n, rfl⟩ : ∃ m, n = m + 1 := ⟨n - 1, by omega⟩
    simp only [impl_intss_l0, impl_intss_g0]
    have : decide ((i : Int) < (l.length : Int)) = false := by simp only [decide_eq_false_iff_not]; omega
    rw [this, cond_false, List.take_of_length_le (by omega)]
  | c + 1, i, n, hi, hn => by
    obtain ⟨n, rfl⟩ : ∃ m, n = m + 1 := ⟨n - 1, by omega⟩
    have hlt : i < l.length := by omega
    have ih := intss_loop l hl hin c (i + 1) n (by omega) (by omega)
    simp only [impl_intss_l0, impl_intss_g0]
    have : decide ((i : Int) < (l.length : Int)) = true := by simp only [decide_eq_true_eq]; omega
    rw [this, cond_true, nth_get hlt]
    simp only [Option.bind_some, impl_ints, impl_ints_g]
    rw [lim_le (hin _ (List.getElem_mem hlt))]
    simp only [Option.bind_some]
    rw [lim_le (by simp only [List.length_take, List.length_cons, List.length_nil]; omega), succ_in hlt (by omega)]
    simp only [Option.bind_some]
    rw [← ih, take_snoc hlt]
theorem intss (l : List (List Int)) (hl : l.length * 24 ≤ 140737488355328) (hin : ∀ x ∈ l, x.length * 8 ≤ 140737488355328) : impl_intss N l = some (l, ()) := by
  unfold impl_intss impl_intss_g
  exact intss_loop hN hNl l hl hin l.length 0 N (by omega) (by omega)
theorem loopA {ly s sr : Int} {flat : List Nat} {ends : List Int} (hs : 0 < s) (hl : ends.length ≤ 4294967296) : ∀ (c i n : Nat) (a : Int), i + c = ends.length → c + 1 ≤ n → s ∣ a → Chain s a (ends.drop i) flat.length →
    gogeom_geom2_verify_l0 N n (ly, s, flat, sr, ends, ()) a (i : Int) = some ((), (ly, s, flat, sr, ends, ()), ())
  | 0, i, n, a, hi, hn, ha, hc => by
    obtain ⟨n, rfl⟩ : ∃ m, n = m + 1 := ⟨n - 1, by omega⟩
    rw [List.drop_eq_nil_of_le (by omega)] at hc
    simp only [Chain] at hc
    subst hc
    simp only [gogeom_geom2_verify_l0, gogeom_geom2_verify_g0, Bool.cond_decide]
    rw [if_neg (by omega), bne_self_eq_false, cond_false]
  | c + 1, i, n, a, hi, hn, ha, hc => by
    obtain ⟨n, rfl⟩ : ∃ m, n = m + 1 := ⟨n - 1, by omega⟩
    have hlt : i < ends.length := by omega
    rw [List.drop_eq_getElem_cons hlt] at hc
    simp only [Chain] at hc
    obtain ⟨h1, h2, h3⟩ := hc
    have h4 := dvd_next ha h2
    simp only [gogeom_geom2_verify_l0, gogeom_geom2_verify_g0, Bool.cond_decide]
    rw [if_pos (by omega), chk_nat hlt]
    simp only [Option.bind_some]
    rw [List.getElem?_eq_getElem hlt]
    simp only [Option.bind_some]
    rw [if_neg (by omega), dvd_tmod hs h4, bne_self_eq_false, cond_false, if_neg (by omega), wrap_in (n := (i : Int) + 1) (by omega), show (i : Int) + 1 = ((i + 1 : Nat) : Int) by omega]
    exact loopA hs hl c (i + 1) n _ (by omega) (by omega) h4 h3
theorem loopB {ly s sr : Int} {flat : List Nat} {ends : List Int} (hs : 0 < s) (hl : ends.length ≤ 4294967296) : ∀ (c i n : Nat) (a : Int), i + c = ends.length → c + 1 ≤ n → s ∣ a → Chain s a (ends.drop i) flat.length →
    gogeom_geom2_verify_b_l0 N n (ly, s, flat, sr, ends, ()) a (i : Int) = some ((), (ly, s, flat, sr, ends, ()), ())
  | 0, i, n, a, hi, hn, ha, hc => by
    obtain ⟨n, rfl⟩ : ∃ m, n = m + 1 := ⟨n - 1, by omega⟩
    rw [List.drop_eq_nil_of_le (by omega)] at hc
    simp only [Chain] at hc
    subst hc
    simp only [gogeom_geom2_verify_b_l0, gogeom_geom2_verify_b_g0, Bool.cond_decide]
    rw [if_neg (by omega), bne_self_eq_false, cond_false]
  | c + 1, i, n, a, hi, hn, ha, hc => by
    obtain ⟨n, rfl⟩ : ∃ m, n = m + 1 := ⟨n - 1, by omega⟩
    have hlt : i < ends.length := by omega
    rw [List.drop_eq_getElem_cons hlt] at hc
    simp only [Chain] at hc
    obtain ⟨h1, h2, h3⟩ := hc
    have h4 := dvd_next ha h2
    simp only [gogeom_geom2_verify_b_l0, gogeom_geom2_verify_b_g0, Bool.cond_decide]
    rw [if_pos (by omega), nth_get hlt]
    simp only [Option.bind_some]
    rw [if_neg (by omega), dvd_tmod hs h4, bne_self_eq_false, cond_false, if_neg (by omega), wrap_in (n := (i : Int) + 1) (by omega), show (i : Int) + 1 = ((i + 1 : Nat) : Int) by omega]
    exact loopB hs hl c (i + 1) n _ (by omega) (by omega) h4 h3
theorem loop3i {ly s sr : Int} {flat : List Nat} {endss : List (List Int)} {r0 : Int → Int → Option (Unit × (Int × Int × List Nat × Int × List (List Int) × Unit) × Unit)} {v9 : Int} {l : List Int} (hs : 0 < s) (hl : l.length ≤ 140737488351232) : ∀ (c i n : Nat) (a b : Int), i + c = l.length → c + 1 ≤ n → s ∣ a → Chain s a (l.drop i) b →
    s ∣ b ∧ gogeom_geom3_verify_l1 N r0 (ly, s, flat, sr, endss, ()) n v9 l a (i : Int) = r0 b (IntKind.i64.wrap (v9 + 1))
  | 0, i, n, a, b, hi, hn, ha, hc => by
    obtain ⟨n, rfl⟩ : ∃ m, n = m + 1 := ⟨n - 1, by omega⟩
    rw [List.drop_eq_nil_of_le (by omega)] at hc
    simp only [Chain] at hc
    subst hc
    refine ⟨ha, ?_⟩
    simp only [gogeom_geom3_verify_l1, gogeom_geom3_verify_g1, Bool.cond_decide]
    rw [if_neg (by omega)]
  | c + 1, i, n, a, b, hi, hn, ha, hc => by
    obtain ⟨n, rfl⟩ : ∃ m, n = m + 1 := ⟨n - 1, by omega⟩
    have hlt : i < l.length := by omega
    rw [List.drop_eq_getElem_cons hlt] at hc
    simp only [Chain] at hc
    obtain ⟨h1, h2, h3⟩ := hc
    have h4 := dvd_next ha h2
    simp only [gogeom_geom3_verify_l1, gogeom_geom3_verify_g1, Bool.cond_decide]
    rw [if_pos (by omega), nth_get hlt]
    simp only [Option.bind_some]
    rw [if_neg (by omega), dvd_tmod hs h4, bne_self_eq_false, cond_false, if_neg (by omega), wrap_in (n := (i : Int) + 1) (by omega), show (i : Int) + 1 = ((i + 1 : Nat) : Int) by omega]
    exact loop3i hs hl c (i + 1) n _ b (by omega) (by omega) h4 h3
theorem loop3 {ly s sr : Int} {flat : List Nat} {endss : List (List Int)} (hs : 0 < s) (hl : endss.length ≤ 140737488351232) (hle : ∀ l ∈ endss, l.length ≤ 140737488351232) : ∀ (c i n : Nat) (a : Int), i + c = endss.length → c + 1 ≤ n → s ∣ a → Chain2 s a (endss.drop i) flat.length →
    gogeom_geom3_verify_l0 N n (ly, s, flat, sr, endss, ()) a (i : Int) = some ((), (ly, s, flat, sr, endss, ()), ())
  | 0, i, n, a, hi, hn, ha, hc => by
    obtain ⟨n, rfl⟩ : ∃ m, n = m + 1 := ⟨n - 1, by omega⟩
    rw [List.drop_eq_nil_of_le (by omega)] at hc
    simp only [Chain2] at hc
    subst hc
    simp only [gogeom_geom3_verify_l0, gogeom_geom3_verify_g0, Bool.cond_decide]
    rw [if_neg (by omega), bne_self_eq_false, cond_false]
  | c + 1, i, n, a, hi, hn, ha, hc => by
    obtain ⟨n, rfl⟩ : ∃ m, n = m + 1 := ⟨n - 1, by omega⟩
    have hlt : i < endss.length := by omega
    rw [List.drop_eq_getElem_cons hlt] at hc
    simp only [Chain2] at hc
    obtain ⟨b, h1, h2⟩ := hc
    have hll := hle _ (List.getElem_mem hlt)
    obtain ⟨h3, h4⟩ := loop3i hN hNl (ly := ly) (sr := sr) (flat := flat) (endss := endss) (r0 := gogeom_geom3_verify_l0 N n (ly, s, flat, sr, endss, ())) (v9 := (i : Int)) hs hll endss[i].length 0 N a b (by omega) (by omega) ha (by simpa using h1)
    simp only [gogeom_geom3_verify_l0, gogeom_geom3_verify_g0, Bool.cond_decide]
    rw [if_pos (by omega), nth_get hlt]
    simp only [Option.bind_some]
    rw [show (0 : Int) = ((0 : Nat) : Int) from rfl, h4, wrap_in (n := (i : Int) + 1) (by omega), show (i : Int) + 1 = ((i + 1 : Nat) : Int) by omega]
    exact loop3 hs hl hle c (i + 1) n _ (by omega) (by omega) h3 h2
section
variable {ly s sr : Int} {flat : List Nat} (h1 : 1 ≤ ly) (hs : strd ly = s) (h0 : 0 < s) (hw : s ∣ (flat.length : Int))
include h1 hs h0 hw
theorem v0 (hp : (flat.length : Int) = s) : gogeom_geom0_verify N (ly, s, flat, sr, ()) = some ((), (ly, s, flat, sr, ()), ()) := by
  unfold gogeom_geom0_verify gogeom_geom0_verify_g
  rw [stride_geom N ly h1, hs]
  simp only [Option.bind_some]
  rw [bne_self_eq_false, cond_false, show (s == 0) = false by simpa using (by omega : s ≠ 0), cond_false, hp, bne_self_eq_false, cond_false]
theorem v1 : gogeom_geom1_verify N (ly, s, flat, sr, ()) = some ((), (ly, s, flat, sr, ()), ()) := by
  unfold gogeom_geom1_verify gogeom_geom1_verify_g
  rw [stride_geom N ly h1, hs]
  simp only [Option.bind_some]
  rw [bne_self_eq_false, cond_false, show (s == 0) = false by simpa using (by omega : s ≠ 0), cond_false, if_neg (by omega), dvd_tmod h0 hw, bne_self_eq_false, cond_false]
  unfold gogeom_geom1_verify_j0 gogeom_geom1_verify_g0
  rw [gate_pos hN]
theorem v2A {ends : List Int} (hl : ends.length ≤ 4294967296) (hc : Chain s 0 ends flat.length) : gogeom_geom2_verify N (ly, s, flat, sr, ends, ()) = some ((), (ly, s, flat, sr, ends, ()), ()) := by
  unfold gogeom_geom2_verify gogeom_geom2_verify_g
  rw [stride_geom N ly h1, hs]
  simp only [Option.bind_some]
  rw [bne_self_eq_false, cond_false, show (s == 0) = false by simpa using (by omega : s ≠ 0), cond_false, if_neg (by omega), dvd_tmod h0 hw, bne_self_eq_false, cond_false]
  exact loopA hN hNl h0 hl ends.length 0 N 0 (by omega) (by omega) (Int.dvd_zero s) (by simpa using hc)
theorem v2B {ends : List Int} (hl : ends.length ≤ 4294967296) (hc : Chain s 0 ends flat.length) : gogeom_geom2_verify_b N (ly, s, flat, sr, ends, ()) = some ((), (ly, s, flat, sr, ends, ()), ()) := by
  unfold gogeom_geom2_verify_b gogeom_geom2_verify_b_g
  rw [stride_geom N ly h1, hs]
  simp only [Option.bind_some]
  rw [bne_self_eq_false, cond_false, show (s == 0) = false by simpa using (by omega : s ≠ 0), cond_false, if_neg (by omega), dvd_tmod h0 hw, bne_self_eq_false, cond_false]
  exact loopB hN hNl h0 hl ends.length 0 N 0 (by omega) (by omega) (Int.dvd_zero s) (by simpa using hc)
theorem v3 {endss : List (List Int)} (hl : endss.length ≤ 140737488351232) (hle : ∀ l ∈ endss, l.length ≤ 140737488351232) (hc : Chain2 s 0 endss flat.length) : gogeom_geom3_verify N (ly, s, flat, sr, endss, ()) = some ((), (ly, s, flat, sr, endss, ()), ()) := by
  unfold gogeom_geom3_verify gogeom_geom3_verify_g
  rw [stride_geom N ly h1, hs]
  simp only [Option.bind_some]
  rw [bne_self_eq_false, cond_false, show (s == 0) = false by simpa using (by omega : s ≠ 0), cond_false, if_neg (by omega), dvd_tmod h0 hw, bne_self_eq_false, cond_false]
  exact loop3 hN hNl h0 hl hle endss.length 0 N 0 (by omega) (by omega) (Int.dvd_zero s) (by simpa using hc)
end
theorem geom_eq (g : Geo) : impl_geometry N N g = impl_geometry_g N (impl_geometry N (N - 1)) g (impl_geometry_l0 N (impl_geometry N (N - 1)) N) := by
  obtain ⟨M, rfl⟩ : ∃ M, N = M + 1 := ⟨N - 1, by omega⟩
  rfl
omit hN hNl in
theorem agree_same {R : Type} {x : Option R} {z : Option R} (h : z = x) : agree z x = x := by unfold agree; rw [if_pos h]; exact h
/-- The ends of a multi point stay. -/
theorem mp_flat {ly s sr : Int} {flat : List Nat} {ends : List Int} (h1 : 1 ≤ ly) (hs : strd ly = s) (h0 : 0 < s) (hc : Chain s 0 ends flat.length) :
    gogeom_NewMultiPointFlat_b N ly flat (((ends, ()), ()), ()) = some ((ly, s, flat, 0, ends, ()), (((ends, ()), ()), ()), ()) := by
  obtain ⟨M, hM⟩ : ∃ M, N = M + 2 := ⟨N - 2, by omega⟩
  unfold gogeom_NewMultiPointFlat_b gogeom_NewMultiPointFlat_b_g
  rw [stride_geom N ly h1, hs]
  simp only [Option.bind_some]
  have e1 : gogeom_NewMultiPointFlat_b_l0 N N flat 0 ly s flat 0 [] ends = gogeom_NewMultiPointFlat_b_l0 N (M + 1) flat 1 ly s flat 0 ends ends := by
    conv => lhs; arg 2; rw [hM]
    simp only [gogeom_NewMultiPointFlat_b_l0, gogeom_NewMultiPointFlat_b_g0, Bool.cond_decide, gogeom_NewMultiPointFlatOptionWithEnds_1_e, gogeom_NewMultiPointFlatOptionWithEnds_1_e_g]
    rw [if_pos (by omega), if_pos (by rfl)]
    simp only [Option.bind_some]
    rw [wrap_in (by omega)]
    rfl
  rw [e1]
  have j4 : gogeom_NewMultiPointFlat_b_j4 N ly s flat 0 ends ends = some ((ly, s, flat, 0, ends, ()), (((ends, ()), ()), ()), ()) := by
    unfold gogeom_NewMultiPointFlat_b_j4 gogeom_NewMultiPointFlat_b_g4
    rw [gate_pos hN]
  have j1 : gogeom_NewMultiPointFlat_b_j1 N flat ly s flat 0 ends ends = some ((ly, s, flat, 0, ends, ()), (((ends, ()), ()), ()), ()) := by
    unfold gogeom_NewMultiPointFlat_b_j1 gogeom_NewMultiPointFlat_b_g1
    rw [gate_pos hN, j4]
  unfold gogeom_NewMultiPointFlat_b_l0 gogeom_NewMultiPointFlat_b_g0
  rw [Bool.cond_decide, if_neg (by omega)]
  cases hb : Nat.ble 1 ends.length with
  | true => rw [cond_true, j1]
  | false =>
    have he : ends = [] := by
      have : ¬ 1 ≤ ends.length := fun h => by rw [Nat.ble_eq_true_of_le h] at hb; cases hb
      exact List.length_eq_zero_iff.1 (by omega)
    subst he
    simp only [Chain] at hc
    rw [cond_false, j1]
    refine agree_same ?_
    rw [gate_pos hN, Bool.cond_decide, if_neg (by omega), j4]
theorem ver_of (g : Geo) (hw : wfG g) (gf : GoodF g) (l1 : 1 ≤ g.layout) (hlen : g.flat.length ≤ 2147483647) (hle : g.ends.length ≤ 2147483647) (hne : g.kind = 1 → g.flat.length ≠ 0) : impl_Verify N g = some (true, true) := by
  have hsz := (sz_of hw).1
  have hends : g.ends.length * 8 ≤ 140737488355328 ∧ g.endss.length * 24 ≤ 140737488355328 ∧ ∀ x ∈ g.endss, x.length * 8 ≤ 140737488355328 := by
    cases g with
    | mk kd ly sr flat ends endss kids =>
      simp only [wfG] at hw
      unfold fits at hw
      simp only [Geo.ends, Geo.endss]
      refine ⟨by omega, by omega, fun x hx => ?_⟩
      have := (hw.2.2.2.2.2.1.2 x hx).1
      omega
  unfold impl_Verify impl_Verify_g
  rw [eta, geom_eq hN hNl]
  unfold impl_geometry_g
  unfold impl_floats impl_floats_g
  rw [lim_le (n := g.flat.length * 8) (by omega)]
  generalize hS : strd g.layout = s
  have h0 : 0 < s := hS ▸ gf.pos
  have hwh : s ∣ (g.flat.length : Int) := hS ▸ gf.whole
  have d0 := v0 hN hNl (sr := g.srid) l1 hS h0 hwh
  have d1 := v1 hN hNl (sr := g.srid) l1 hS h0 hwh
  have d2A := v2A hN hNl (sr := g.srid) l1 hS h0 hwh (ends := g.ends) (by omega)
  have d2B := v2B hN hNl (sr := g.srid) l1 hS h0 hwh (ends := g.ends) (by omega)
  have d3 := v3 hN hNl (sr := g.srid) l1 hS h0 hwh (endss := g.endss) (by omega) (fun l hl => (hsz.each l hl).1)
  have mp := fun h => mp_flat hN hNl (sr := g.srid) (ends := g.ends) (flat := g.flat) l1 hS h0 h
  rcases gf.kind with e | e | e | e | e | e | e
  all_goals
    rw [e]
    simp only [Option.bind_some, show ((1 : Int) == 1) = true from rfl, show ((2 : Int) == 1) = false from rfl, show ((2 : Int) == 2) = true from rfl, show ((8 : Int) == 1) = false from rfl, show ((8 : Int) == 2) = false from rfl, show ((8 : Int) == 8) = true from rfl,
      show ((3 : Int) == 1) = false from rfl, show ((3 : Int) == 2) = false from rfl, show ((3 : Int) == 8) = false from rfl, show ((3 : Int) == 3) = true from rfl,
      show ((4 : Int) == 1) = false from rfl, show ((4 : Int) == 2) = false from rfl, show ((4 : Int) == 8) = false from rfl, show ((4 : Int) == 3) = false from rfl, show ((4 : Int) == 4) = true from rfl,
      show ((5 : Int) == 1) = false from rfl, show ((5 : Int) == 2) = false from rfl, show ((5 : Int) == 8) = false from rfl, show ((5 : Int) == 3) = false from rfl, show ((5 : Int) == 4) = false from rfl, show ((5 : Int) == 5) = true from rfl,
      show ((6 : Int) == 1) = false from rfl, show ((6 : Int) == 2) = false from rfl, show ((6 : Int) == 8) = false from rfl, show ((6 : Int) == 3) = false from rfl, show ((6 : Int) == 4) = false from rfl, show ((6 : Int) == 5) = false from rfl, show ((6 : Int) == 6) = true from rfl,
      cond_true, cond_false, gogeom_NewPointFlat_b, gogeom_NewPointFlat_b_g, gogeom_Point_SetSRID, gogeom_Point_SetSRID_g, gogeom_NewLineStringFlat_b, gogeom_NewLineStringFlat_b_g, gogeom_NewLinearRingFlat_b, gogeom_NewLinearRingFlat_b_g, gogeom_NewPolygonFlat_b, gogeom_NewPolygonFlat_b_g,
      gogeom_NewMultiLineStringFlat_b, gogeom_NewMultiLineStringFlat_b_g, gogeom_NewMultiPolygonFlat, gogeom_NewMultiPolygonFlat_g, gogeom_LineString_SetSRID, gogeom_LineString_SetSRID_g, gogeom_LinearRing_SetSRID, gogeom_LinearRing_SetSRID_g,
      gogeom_Polygon_SetSRID, gogeom_Polygon_SetSRID_g, gogeom_MultiLineString_SetSRID, gogeom_MultiLineString_SetSRID_g, gogeom_MultiPolygon_SetSRID, gogeom_MultiPolygon_SetSRID_g, gogeom_MultiPoint_SetSRID, gogeom_MultiPoint_SetSRID_g,
      gogeom_NewMultiPointFlatOptionWithEnds_b, gogeom_NewMultiPointFlatOptionWithEnds_b_g,
      stride_geom N g.layout l1, impl_ints, impl_ints_g, lim_le hends.1, intss hN hNl _ hends.2.1 hends.2.2, Sum.elim_inl, Sum.elim_inr, hS]
  · have hp : (g.flat.length : Int) = s := by
      have h2 := (gf.point e).2
      rw [hS] at h2
      obtain ⟨q, hq⟩ := hwh
      have hn := hne e
      have q1 : 1 ≤ q := by
        refine Int.not_lt.1 fun h => ?_
        have : s * q ≤ 0 := Int.mul_nonpos_of_nonneg_of_nonpos (by omega) (by omega)
        omega
      have : s * 1 ≤ s * q := Int.mul_le_mul_of_nonneg_left q1 (by omega)
      omega
    simp only [gogeom_DoorVerify, gogeom_DoorVerify_g, d0 hp, Option.bind_some]
  · simp only [gogeom_DoorVerify_b, gogeom_DoorVerify_b_g, d1, Option.bind_some]
  · simp only [gogeom_DoorVerify_c, gogeom_DoorVerify_c_g, d1, Option.bind_some]
  · have hc := gf.parts (.inl e)
    rw [hS] at hc
    simp only [gogeom_DoorVerify_d, gogeom_DoorVerify_d_g, d2A hc, Option.bind_some]
  · have hc := gf.parts (.inr (.inl e))
    rw [hS] at hc
    simp only [mp hc, gogeom_DoorVerify_e, gogeom_DoorVerify_e_g, d2B hc, Option.bind_some, Sum.elim_inl, Sum.elim_inr]
  · have hc := gf.parts (.inr (.inr e))
    rw [hS] at hc
    simp only [gogeom_DoorVerify_f, gogeom_DoorVerify_f_g, d2A hc, Option.bind_some]
  · have hc := (gf.multi e).2
    rw [hS] at hc
    simp only [gogeom_DoorVerify_h, gogeom_DoorVerify_h_g, d3 hc, Option.bind_some]
theorem law (g : Geo) (hd : dep g ≤ N) (hw : wfG g) : laws_FnVerify N g = some true := by
  unfold laws_FnVerify laws_FnVerify_g
  simp only [eta, laws_FnVerify_j0, laws_FnVerify_g0, gate_pos hN]
  obtain ⟨fb, hf, hff⟩ := fits2 hN hNl g hw
  rw [hf]
  simp only [Option.bind_some]
  cases fb with
  | false => rfl
  | true =>
  simp only [Bool.not_true, cond_false]
  obtain ⟨gb, hg, hgg⟩ := gGood_one hN hNl g hd hw
  have hp : laws_gPlain N g = some (bif gb then g.kind != 7 else false) := by
    unfold laws_gPlain laws_gPlain_g
    rw [eta, hg]
    cases gb <;> rfl
  rw [hp]
  simp only [Option.bind_some]
  cases gb with
  | false => rfl
  | true =>
  simp only [cond_true]
  cases k7 : (g.kind != 7) with
  | false => rfl
  | true =>
  simp only [Bool.not_true, cond_false]
  have h7 : g.kind ≠ 7 := by simpa using k7
  obtain ⟨gf, l1, l9⟩ := hgg rfl h7
  have hl := hff rfl
  have fin : (g.kind = 1 → g.flat.length ≠ 0) → ((impl_Verify N g).bind fun v4 => (bif v4.2 then (some v4.1) else (some false))) = some true := by
    intro h
    rw [ver_of hN hNl g hw gf l1 hl.1 hl.2 h]
    rfl
  cases k1 : (g.kind == 1) with
  | false =>
    rw [cond_false]
    exact fin fun h => by rw [h] at k1; cases k1
  | true =>
    rw [cond_true]
    cases k0 : ((g.flat.length : Int) == 0) with
    | true => rfl
    | false =>
      rw [cond_false]
      exact fin fun _ h => by rw [h] at k0; cases k0
end
end Go.Proofs.YtjabjnkiddldeaaDoor.PvVerify
