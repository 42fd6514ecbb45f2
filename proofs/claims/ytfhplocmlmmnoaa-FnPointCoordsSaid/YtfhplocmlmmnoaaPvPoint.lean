/- The plain law of FnPointCoords: the place of a point of good data has its numbers. -/
import Derived.Test.YtfhplocmlmmnoaaPvGeoG5
set_option linter.unusedVariables false
set_option linter.unusedSectionVars false
set_option linter.unusedSimpArgs false
namespace Go.Proofs.Ytfhplocmlmmnoaa.PvPoint
open Go.Av Go
open Go.Proofs.Ytfhplocmlmmnoaa.G5
open Go.Proofs.Ytfhplocmlmmnoaa.PvGeoG5
theorem stride_geom (N : Nat) (l : Int) (h : 1 ≤ l) : gogeom_Layout_Stride N l = some (strd l) := by
  simp only [gogeom_Layout_Stride, gogeom_Layout_Stride_g, strd, beq_iff_eq, Bool.cond_eq_ite, apply_ite some]
  repeat' split
  all_goals first | rfl | omega | (subst_vars; rfl) | skip
section
variable {N : Nat} (hN : 0 < N) (hNl : 9223372036854775808 ≤ N)
include hN hNl
theorem same (x : List Nat) (hx : x.length ≤ 4294967296) : spec_SameFloats N x x = some true := by
  unfold spec_SameFloats spec_SameFloats_g
  simp only [bne_self_eq_false, cond_false]
  rcases checkLoop0 (xs := x) (L := fun n i => spec_SameFloats_l0 N n x x i) (e := fun _ => False) (fin := some true) (fun _ => True)
    (fun n => by
      simp only [spec_SameFloats_l0, spec_SameFloats_g0, Bool.cond_decide]
      rw [if_neg (by omega)])
    (fun n i hi => by
      right
      simp only [spec_SameFloats_l0, spec_SameFloats_g0, math_Float64bits, Bool.cond_decide]
      rw [if_pos (by omega), nth_get hi, succ_in hi (by omega)]
      simp) N (by omega) with h | ⟨h, _⟩
  · exact h.elim
  · exact h
theorem law (g : Geo) (hd : dep g ≤ N) (hw : wfG g) : laws_FnPointCoords N g = some true := by
  unfold laws_FnPointCoords laws_FnPointCoords_g
  simp only [eta, laws_FnPointCoords_j0, laws_FnPointCoords_g0, gate_pos hN]
  obtain ⟨fb, hf, hff⟩ := fits2 hN hNl g hw
  rw [hf]
  simp only [Option.bind_some]
  cases fb with
  | false => rfl
  | true =>
  simp only [Bool.not_true, cond_false]
  obtain ⟨gb, hg, hgg⟩ := gGood_one hN hNl g hd hw
  rw [hg]
  simp only [Option.bind_some]
  cases gb with
  | false => rfl
  | true =>
  simp only [Bool.not_true, cond_false]
  cases k1 : (g.kind != 1) with
  | true => rfl
  | false =>
  simp only [cond_false]
  have e1 : g.kind = 1 := by simpa using k1
  cases k0 : ((g.flat.length : Int) == 0) with
  | true => rfl
  | false =>
  simp only [cond_false]
  obtain ⟨gf, l1, l9⟩ := hgg rfl (by omega)
  have hlen := (hff rfl).1
  have hs := strd_le ⟨l1, l9⟩
  have hn0 : (g.flat.length : Int) ≠ 0 := by simpa using k0
  have hle := (gf.point e1).2
  have hfl : (g.flat.length : Int) = strd g.layout := by
    obtain ⟨q, hq⟩ := gf.whole
    rcases Int.lt_or_le q 1 with h | h
    · have : strd g.layout * q ≤ 0 := Int.mul_nonpos_of_nonneg_of_nonpos (by omega) (by omega)
      omega
    · have : strd g.layout * 1 ≤ strd g.layout * q := Int.mul_le_mul_of_nonneg_left h (by omega)
      omega
  have hp : impl_PointCoords N g = some (g.flat, true, ()) := by
    unfold impl_PointCoords impl_PointCoords_g
    rw [eta]
    unfold impl_geometry impl_geometry_g impl_floats impl_floats_g
    rw [lim_le (n := g.flat.length * 8) (by omega), e1]
    simp only [Option.bind_some]
    rw [show ((1 : Int) == 1) = true from rfl]
    simp only [cond_true, gogeom_NewPointFlat_b, gogeom_NewPointFlat_b_g, stride_geom N g.layout l1, Option.bind_some, gogeom_Point_SetSRID, gogeom_Point_SetSRID_g, Sum.elim_inl, gate_pos hN, gogeom_geom0_Coords, gogeom_geom0_Coords_g, gogeom_inflate0, gogeom_inflate0_g]
    rw [show (0 : Int) + strd g.layout = strd g.layout by omega, wrap_in (by omega), ← hfl, bne_self_eq_false, cond_false, mkn_ok (by omega) (by omega) (by omega) (by omega)]
    simp only [Option.bind_some]
    rw [chk2_int (by omega)]
    simp only [Option.bind_some, Int.toNat_zero, Int.toNat_natCast, List.drop_zero, Nat.sub_zero, List.length_replicate, List.take_length]
    rw [show (g.flat ++ List.drop g.flat.length (List.replicate g.flat.length 0)) = g.flat by rw [List.drop_eq_nil_of_le (by simp), List.append_nil]]
    rw [lim_le (n := g.flat.length * 8) (by omega)]
    rfl
  rw [hp]
  simp only [Option.bind_some, cond_true, same hN hNl g.flat (by omega)]
end
end Go.Proofs.Ytfhplocmlmmnoaa.PvPoint
