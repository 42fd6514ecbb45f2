/- The plain law of FnDoubleArea3. -/
import Derived.Test.YtgipjhgnnppjgaaPvTwiceFA
set_option linter.unusedVariables false
set_option linter.unusedSectionVars false
set_option linter.unusedSimpArgs false
namespace Go.Proofs.Ytgipjhgnnppjgaa.PvDoubleArea3
open Go.Av Go
open Go.Proofs.Ytgipjhgnnppjgaa.FA
open Go.Proofs.Ytgipjhgnnppjgaa.PvGoodFA
open Go.Proofs.Ytgipjhgnnppjgaa.PvAreaFA
open Go.Proofs.Ytgipjhgnnppjgaa.PvTwiceFA
theorem bound20 : Wh 4697254411347427328 1048576 := wh_lit _ _ (by decide +kernel) (by decide +kernel) (by decide +kernel) (by decide)
theorem neg20 : fneg 4697254411347427328 = 13920626448202203136 := by decide +kernel
section
variable {N : Nat} (hN0 : 0 < N) (hNl : 9223372036854775808 ≤ N)
include hN0 hNl
theorem fits3 (ls : List (List Int)) : laws_zzFits3 N ls = some false ∨ (laws_zzFits3 N ls = some true ∧ ls.length ≤ 2147483647 ∧ ∀ l ∈ ls, l.length ≤ 2147483647) := by
  simp only [laws_zzFits3, laws_zzFits3_g, Bool.cond_decide]
  by_cases h : (ls.length : Int) > 2147483647
  · rw [if_pos h]; exact .inl rfl
  · rw [if_neg h]
    have := checkLoop0 (xs := ls) (L := fun n i => laws_zzFits3_l0 N n ls i) (e := fun o => o = some false) (fin := some true) (fun l => l.length ≤ 2147483647) (fun n => by
      simp only [laws_zzFits3_l0, laws_zzFits3_g0, Bool.cond_decide]; rw [if_neg (by omega)]) (fun n i h => by
      simp only [laws_zzFits3_l0, laws_zzFits3_g0, Bool.cond_decide]
      rw [if_pos (by omega), nth_get h, succ_in h (by omega)]
      simp only [Option.bind_some]
      by_cases h2 : (ls[i].length : Int) > 2147483647
      · rw [if_pos h2]; exact .inl rfl
      · rw [if_neg h2]; exact .inr ⟨rfl, by omega⟩) N (by omega)
    rcases this with h | ⟨h1, h2⟩
    · exact .inl h
    · exact .inr ⟨h1, by omega, h2⟩
theorem hollow (g : Geo) (hl : g.endss.length ≤ 2147483647) : laws_gHollow N g = some true ∨ (laws_gHollow N g = some false ∧ ∀ l ∈ g.endss, l ≠ []) := by
  simp only [laws_gHollow, laws_gHollow_g]
  have := checkLoop0 (xs := g.endss) (L := fun n i => laws_gHollow_l0 N n g i) (e := fun o => o = some true) (fin := some false) (fun l => l ≠ []) (fun n => by
    simp only [laws_gHollow_l0, laws_gHollow_g0, Bool.cond_decide]; rw [if_neg (by omega)]) (fun n i h => by
    simp only [laws_gHollow_l0, laws_gHollow_g0, Bool.cond_decide]
    rw [if_pos (by omega), nth_get h, succ_in h (by omega)]
    simp only [Option.bind_some]
    cases h2 : ((g.endss[i].length : Int) == 0) with
    | true => exact .inl rfl
    | false => exact .inr ⟨rfl, fun hn => by rw [hn] at h2; cases h2⟩) N (by omega)
  exact this
theorem each (lay : Int) (flat : List Nat) (ls : List (List Int)) (hl : flat.length ≤ 2147483647) :
    laws_gEach_b N N (Geo.mk 6 lay 0 flat [] ls []) = some false ∨ (laws_gEach_b N N (Geo.mk 6 lay 0 flat [] ls []) = some true ∧ ∀ x ∈ flat, ∃ k : Int, Wh x k ∧ -1048576 ≤ k ∧ k ≤ 1048576) := by
  obtain ⟨d, hd⟩ : ∃ m, N = m + 1 := ⟨N - 1, by omega⟩
  rw [show laws_gEach_b N N = laws_gEach_b N (d + 1) by rw [← hd]]
  have kf : (Geo.mk 6 lay 0 flat [] ls []).flat = flat := rfl
  have kk : (Geo.mk 6 lay 0 flat [] ls []).kids = [] := rfl
  have u : laws_gEach_b N (d + 1) (Geo.mk 6 lay 0 flat [] ls []) = laws_gEach_b_l0 N (laws_gEach_b N d) N (Geo.mk 6 lay 0 flat [] ls []) 0 := rfl
  rw [u]
  generalize laws_gEach_b N d = self
  exact checkLoop0 (xs := flat) (L := fun n i => laws_gEach_b_l0 N self n (Geo.mk 6 lay 0 flat [] ls []) i) (e := fun o => o = some false) (fin := some true) (fun x => ∃ k : Int, Wh x k ∧ -1048576 ≤ k ∧ k ≤ 1048576) (fun n => by
    simp only [laws_gEach_b_l0, laws_gEach_b_g0, Bool.cond_decide, kf]
    rw [if_neg (by omega), show laws_gEach_b_l1 N self N = laws_gEach_b_l1 N self (d + 1) by rw [← hd]]
    simp only [laws_gEach_b_l1, laws_gEach_b_g1, Bool.cond_decide, kk]
    rw [if_neg (by simp)]) (fun n i h => by
    simp only [laws_gEach_b_l0, laws_gEach_b_g0, Bool.cond_decide, kf]
    rw [if_pos (by omega), nth_get h, succ_in h (by omega)]
    simp only [Option.bind_some, laws_gWhole, laws_gWhole_g]
    cases h1 : fge flat[i] 13920626448202203136 with
    | false => exact .inl rfl
    | true =>
      cases h2 : fle flat[i] 4697254411347427328 with
      | false => exact .inl rfl
      | true =>
        rw [← neg20] at h1
        obtain ⟨y, hy, hw⟩ := whole_between bound20 (by decide) h1 h2
        simp only [math_Trunc, math_Trunc_g, math_archTrunc, hy, Option.bind_some, cond_true]
        cases he : feq flat[i] y with
        | false => exact .inl rfl
        | true => exact .inr ⟨rfl, hw he⟩) N (by omega)
end
theorem law (v1 : List Nat) (v2 : List (List Int)) (v3 : Int) (hx : ∀ l ∈ v2, ∀ x ∈ l, x ≤ 9223372036854775807) : laws_FnDoubleArea3 18446744073709551616 v1 v2 v3 = some true := by
  generalize hN : 18446744073709551616 = N
  have hN0 : 0 < N := by omega
  have hNl : 9223372036854775808 ≤ N := by omega
  unfold laws_FnDoubleArea3 laws_FnDoubleArea3_g laws_FnDoubleArea3_j0 laws_FnDoubleArea3_g0
  simp only [gate_pos hN0, Bool.cond_decide]
  by_cases a1 : (v1.length : Int) > 2147483647
  · rw [if_pos a1]
  rw [if_neg a1]
  rcases fits3 hN0 hNl v2 with h | ⟨h, hl1, hl2⟩
  · rw [h]; rfl
  rw [h]
  simp only [Option.bind_some, Bool.not_true, cond_false]
  by_cases b1 : v3 ≥ 2
  · by_cases b2 : v3 ≤ 9
    · obtain ⟨s, rfl⟩ := Int.eq_ofNat_of_zero_le (show 0 ≤ v3 by omega)
      obtain ⟨lay, hlay, hst⟩ : ∃ lay, laws_fLayout N (s : Int) = some lay ∧ strd lay = (s : Int) := by
        simp only [laws_fLayout, laws_fLayout_g]
        have : s = 2 ∨ s = 3 ∨ s = 4 ∨ s = 5 ∨ s = 6 ∨ s = 7 ∨ s = 8 ∨ s = 9 := by omega
        rcases this with rfl | rfl | rfl | rfl | rfl | rfl | rfl | rfl <;> exact ⟨_, rfl, rfl⟩
      obtain ⟨t, g1, g2⟩ := gGood6 hN0 hNl (s := (s : Int)) (by omega) hst v1 v2 (by omega) hl1 (fun l hl => ⟨hl2 l hl, hx l hl⟩)
      have hrow : laws_fRowss N v1 v2 (s : Int) = some (Geo.mk 6 lay 0 v1 [] v2 [], t) := by
        simp only [laws_fRowss, laws_fRowss_g, laws_fStride, laws_fStride_g, Bool.cond_decide]
        rw [if_pos b1, decide_eq_true b2]
        simp only [Option.bind_some, Bool.not_true, cond_false, hlay, g1]
      rw [hrow]
      simp only [Option.bind_some]
      cases t with
      | false => rfl
      | true =>
        obtain ⟨hc, hlen, hll⟩ := g2 rfl
        simp only [Bool.not_true, cond_false]
        rcases hollow hN0 hNl (Geo.mk 6 lay 0 v1 [] v2 []) hl1 with hh | ⟨hh, hne⟩
        · show ((laws_gHollow N (Geo.mk 6 lay 0 v1 [] v2 [])).bind _) = _
          rw [hh]; rfl
        · show ((laws_gHollow N (Geo.mk 6 lay 0 v1 [] v2 [])).bind _) = _
          rw [hh]
          simp only [Option.bind_some, cond_false]
          rcases each hN0 hNl lay v1 v2 (by omega) with he | ⟨he, hw⟩
          · show ((laws_gEach_b N N (Geo.mk 6 lay 0 v1 [] v2 [])).bind _) = _
            rw [he]; rfl
          · show ((laws_gEach_b N N (Geo.mk 6 lay 0 v1 [] v2 [])).bind _) = _
            rw [he]
            simp only [Option.bind_some, Bool.not_true, cond_false]
            have hch : ∀ i : Nat, ∃ k : Int, ∀ (h : i < v1.length), Wh v1[i] k ∧ -1048576 ≤ k ∧ k ≤ 1048576 := fun i => by
              by_cases h : i < v1.length
              · obtain ⟨k, hk⟩ := hw _ (List.getElem_mem h); exact ⟨k, fun _ => hk⟩
              · exact ⟨0, fun h' => absurd h' h⟩
            let F : Nat → Int := fun i => Classical.choose (hch i)
            have hFs := fun i => Classical.choose_spec (hch i)
            have hF : ∀ (i : Nat) (h : i < v1.length), Wh v1[i] (F i) := fun i h => (hFs i h).1
            have hB : ∀ i, i < v1.length → (F i).natAbs ≤ 1048576 := fun i h => by have := (hFs i h).2; show (F i).natAbs ≤ _; have h3 : F i = Classical.choose (hch i) := rfl; omega
            obtain ⟨y, r1, r2, r3⟩ := area3 hN0 hNl hF hB hlen (s := s) (by omega) (by omega) v2 hc (by omega) (fun l hl => ⟨hne l hl, by have := hll l hl; omega⟩)
            obtain ⟨d, hd⟩ : ∃ m, N = m + 1 + 1 + 1 := ⟨N - 3, by omega⟩
            have t6 := twice6 hN0 hNl (s := s) (by omega) (by omega) hst (d := d) hF hB v2 hc hlen hl1 (fun l hl => ⟨hne l hl, hll l hl⟩)
            rw [← hd] at t6
            simp only [impl_DoubleArea3, impl_DoubleArea3_g, gogeom_DoorDoubleArea3, gogeom_DoorDoubleArea3_g, r1, Option.bind_some, cond_true]
            show ((laws_gTwice N N (Geo.mk 6 lay 0 v1 [] v2 [])).bind _) = _
            rw [t6]
            simp only [Option.bind_some]
            have hb : v1.length * 4398046511104 ≤ 2000 * 4398046511104 := Nat.mul_le_mul_right _ (by omega)
            rw [feq_wh r2 (i2f_wh _ (by omega))]
            simp
    · have hrow : ∃ g, laws_fRowss N v1 v2 v3 = some (g, false) := by
        simp only [laws_fRowss, laws_fRowss_g, laws_fStride, laws_fStride_g, Bool.cond_decide]
        rw [if_pos b1, decide_eq_false b2]; exact ⟨_, rfl⟩
      obtain ⟨g, hg⟩ := hrow
      rw [hg]; rfl
  · have hrow : ∃ g, laws_fRowss N v1 v2 v3 = some (g, false) := by
      simp only [laws_fRowss, laws_fRowss_g, laws_fStride, laws_fStride_g, Bool.cond_decide]
      rw [if_neg b1]; exact ⟨_, rfl⟩
    obtain ⟨g, hg⟩ := hrow
    rw [hg]; rfl
end Go.Proofs.Ytgipjhgnnppjgaa.PvDoubleArea3
