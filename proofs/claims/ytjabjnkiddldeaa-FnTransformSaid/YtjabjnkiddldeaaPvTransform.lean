/- The plain law of FnTransform: each number of a geometry becomes its multiple and its sum. -/
import Derived.Test.YtjabjnkiddldeaaPvGeoTR
import Derived.Test.YtjabjnkiddldeaaPv2
import Derived.Test.YtjabjnkiddldeaaPv3
import Derived.Test.YtjabjnkiddldeaaFl7
set_option linter.unusedVariables false
set_option linter.unusedSectionVars false
set_option linter.unusedSimpArgs false
namespace Go.Proofs.Ytjabjnkiddldeaa.PvTransform
open Go.Av Go
open Go.Proofs.Ytjabjnkiddldeaa.TR
open Go.Proofs.Ytjabjnkiddldeaa.PvGeoTR
theorem stride_geom (N : Nat) (l : Int) (h : 1 ≤ l) : gogeom_Layout_Stride N l = some (strd l) := by
  simp only [gogeom_Layout_Stride, gogeom_Layout_Stride_g, strd, beq_iff_eq, Bool.cond_eq_ite, apply_ite some]
  repeat' split
  all_goals first | rfl | omega | (subst_vars; rfl) | skip
theorem bound20 : Wh 4697254411347427328 1048576 := wh_lit _ _ (by decide +kernel) (by decide +kernel) (by decide +kernel) (by decide)
theorem neg20 : fneg 4697254411347427328 = 13920626448202203136 := by decide +kernel
/-- A whole number from -2^20 to 2^20. -/
def Q (x : Nat) : Prop := ∃ n, Wh x n ∧ -1048576 ≤ n ∧ n ≤ 1048576
theorem gwhole (N : Nat) (x : Nat) : ∃ b, laws_gWhole N x = some b ∧ (b = true → Q x) := by
  unfold laws_gWhole laws_gWhole_g
  cases h1 : fge x 13920626448202203136 with
  | false => exact ⟨false, rfl, fun h => by cases h⟩
  | true =>
    simp only [cond_true]
    cases h2 : fle x 4697254411347427328 with
    | false => exact ⟨false, rfl, fun h => by cases h⟩
    | true =>
      rw [← neg20] at h1
      obtain ⟨y, y1, y2⟩ := whole_between bound20 (by decide) h1 h2
      simp only [cond_true, math_Trunc, math_Trunc_g, math_archTrunc, fwholeN, y1, Option.bind_some, Sum.elim_inl]
      exact ⟨_, rfl, fun h => y2 h⟩
/-- The whole number of a float, the float of a step, the number of a step. -/
def tI (x : Nat) : Int := (floatToIntVal .f64 x .i64).getD 0
theorem Q.wh {x : Nat} (h : Q x) : Wh x (tI x) ∧ floatToIntVal .f64 x .i64 = some (tI x) ∧ -1048576 ≤ tI x ∧ tI x ≤ 1048576 := by
  obtain ⟨n, w, h1, h2⟩ := h
  have e := f2i_wh w (by omega)
  have t : tI x = n := by unfold tI; rw [e]; rfl
  rw [t]
  exact ⟨w, e, h1, h2⟩
def fm1 (mul : List Nat) (j x : Nat) : Nat := if h : j < mul.length then (Ieee.double.mul x mul[j]).getD 0 else x
def fm2 (add : List Nat) (j y : Nat) : Nat := if h : j < add.length then (Ieee.double.add y add[j]).getD 0 else y
def im1 (mul : List Nat) (j x : Nat) : Int := if h : j < mul.length then tI x * tI mul[j] else tI x
def im2 (add : List Nat) (j : Nat) (n : Int) : Int := if h : j < add.length then n + tI add[j] else n
theorem mul_bd {a b : Int} (ha : -1048576 ≤ a ∧ a ≤ 1048576) (hb : -1048576 ≤ b ∧ b ≤ 1048576) : -1099511627776 ≤ a * b ∧ a * b ≤ 1099511627776 := by
  have h : (a * b).natAbs ≤ 1048576 * 1048576 := by
    rw [Int.natAbs_mul]
    exact Nat.mul_le_mul (by omega) (by omega)
  omega
section
variable {mul add : List Nat} (hm : ∀ x ∈ mul, Q x) (ha : ∀ x ∈ add, Q x)
include hm ha
omit ha in
theorem fm1_wh {j x : Nat} (hx : Q x) : Wh (fm1 mul j x) (im1 mul j x) ∧ (∀ h : j < mul.length, Ieee.double.mul x mul[j] = some (fm1 mul j x)) ∧ -1099511627776 ≤ im1 mul j x ∧ im1 mul j x ≤ 1099511627776 := by
  obtain ⟨w, _, h1, h2⟩ := hx.wh
  unfold fm1 im1
  by_cases h : j < mul.length
  · obtain ⟨v, _, h3, h4⟩ := (hm _ (List.getElem_mem h)).wh
    have b := mul_bd ⟨h1, h2⟩ ⟨h3, h4⟩
    obtain ⟨z, z1, z2⟩ := mul_wh w v (by omega)
    rw [dif_pos h, dif_pos h, z1]
    exact ⟨z2, fun _ => z1, b⟩
  · rw [dif_neg h, dif_neg h]
    exact ⟨w, fun h' => absurd h' h, by omega, by omega⟩
omit hm in
theorem fm2_wh {j y : Nat} {n : Int} (hy : Wh y n) (hb : -1099511627776 ≤ n ∧ n ≤ 1099511627776) : Wh (fm2 add j y) (im2 add j n) ∧ (∀ h : j < add.length, Ieee.double.add y add[j] = some (fm2 add j y)) ∧ -1099512676352 ≤ im2 add j n ∧ im2 add j n ≤ 1099512676352 := by
  unfold fm2 im2
  by_cases h : j < add.length
  · obtain ⟨v, _, h3, h4⟩ := (ha _ (List.getElem_mem h)).wh
    obtain ⟨z, z1, z2⟩ := add_wh hy v (by omega)
    rw [dif_pos h, dif_pos h, z1]
    exact ⟨z2, fun _ => z1, by omega, by omega⟩
  · rw [dif_neg h, dif_neg h]
    exact ⟨hy, fun h' => absurd h' h, by omega, by omega⟩
end
/-- A step. -/
def fm (mul add : List Nat) (j x : Nat) : Nat := fm2 add j (fm1 mul j x)
def im (mul add : List Nat) (j x : Nat) : Int := im2 add j (im1 mul j x)
/-- A row of which the first t numbers have been stepped, by places of s numbers. -/
def R (mul add : List Nat) (s : Nat) (flat : List Nat) (t : Nat) : List Nat := flat.mapIdx fun k x => if k < t then fm mul add (k % s) x else x
theorem R_len {mul add : List Nat} {s : Nat} {flat : List Nat} {t : Nat} : (R mul add s flat t).length = flat.length := by unfold R; rw [List.length_mapIdx]
theorem R_elem {mul add : List Nat} {s : Nat} {flat : List Nat} {t i : Nat} (h : i < flat.length) (h' : i < (R mul add s flat t).length) : (R mul add s flat t)[i] = if i < t then fm mul add (i % s) flat[i] else flat[i] := by
  exact List.getElem_mapIdx
theorem R_zero {mul add : List Nat} {s : Nat} {flat : List Nat} : R mul add s flat 0 = flat := by
  refine List.ext_getElem R_len fun i h1 h2 => ?_
  rw [R_elem h2 h1, if_neg (by omega)]
theorem R_get {mul add : List Nat} {s : Nat} {flat : List Nat} {t : Nat} (h : t < flat.length) : (R mul add s flat t)[t]? = some flat[t] := by
  rw [List.getElem?_eq_getElem (by rw [R_len]; exact h), R_elem h _, if_neg (by omega)]
theorem R_set {mul add : List Nat} {s : Nat} {flat : List Nat} {t : Nat} (h : t < flat.length) : (R mul add s flat t).set t (fm mul add (t % s) flat[t]) = R mul add s flat (t + 1) := by
  refine List.ext_getElem (by rw [List.length_set, R_len, R_len]) fun i h1 h2 => ?_
  have hi : i < flat.length := by rw [R_len] at h2; exact h2
  rw [List.getElem_set, R_elem hi h2]
  by_cases e : t = i
  · subst e
    rw [if_pos rfl, if_pos (by omega)]
  · rw [if_neg e, R_elem hi _]
    by_cases h3 : i < t
    · rw [if_pos h3, if_pos (by omega)]
    · rw [if_neg h3, if_neg (by omega)]
theorem set_same {α : Type} {l : List α} {i : Nat} {a : α} (h : l[i]? = some a) : l.set i a = l := by
  refine List.ext_getElem? fun k => ?_
  rw [List.getElem?_set]
  split
  · rename_i e; subst e
    split
    · exact h.symm
    · rename_i hl
      rw [List.getElem?_eq_none (by omega)] at h
      cases h
  · rfl
theorem bind_chk {α : Type} {j n : Nat} (h : j < n) (f : Nat → Option α) : (chk (j : Int) n).bind f = f j := by rw [chk_nat h]; rfl
section
variable {N : Nat} (hN : 0 < N) (hNl : 9223372036854775808 ≤ N) {mul add : List Nat} (hm : ∀ x ∈ mul, Q x) (ha : ∀ x ∈ add, Q x)
include hN hNl
section
include hm ha
/-- The step of one place. -/
theorem place {s q : Nat} {flat : List Nat} (hs : 0 < s) (hq : ∀ x ∈ flat, Q x) (hw : q * s + s ≤ flat.length) (hl : flat.length ≤ 4294967296) : ∀ (c i n : Nat), i + c = s → c + 1 ≤ n →
    impl_Transform_2_l0 N n (R mul add s flat (q * s), q * s, s) (mul, add, ()) (i : Int) (R mul add s flat (q * s + i)) = some ((R mul add s flat (q * s + s), q * s, s), (mul, add, ()), ())
  | 0, i, n, hi, hn => by
    obtain ⟨n, rfl⟩ : ∃ m, n = m + 1 := ⟨n - 1, by omega⟩
    simp only [impl_Transform_2_l0, impl_Transform_2_g0, Bool.cond_decide]
    rw [if_neg (by omega), show i = s by omega]
  | c + 1, i, n, hi, hn => by
    obtain ⟨n, rfl⟩ : ∃ m, n = m + 1 := ⟨n - 1, by omega⟩
    have hlt : i < s := by omega
    have hf : q * s + i < flat.length := by omega
    have ih := place hs hq hw hl c (i + 1) n (by omega) (by omega)
    have hmod : (q * s + i) % s = i := by rw [Nat.mul_comm, Nat.mul_add_mod]; exact Nat.mod_eq_of_lt hlt
    have hx := hq _ (List.getElem_mem hf)
    obtain ⟨w1, e1, b1⟩ := fm1_wh hm (j := i) hx
    obtain ⟨w2, e2, b2⟩ := fm2_wh ha (j := i) w1 b1
    have hset := R_set (mul := mul) (add := add) (s := s) hf
    rw [hmod] at hset
    have last : impl_Transform_2_j2 N (impl_Transform_2_l0 N n (R mul add s flat (q * s), q * s, s) (mul, add, ())) (R mul add s flat (q * s), q * s, s) (mul, add, ()) (i : Int) (R mul add s flat (q * s + (i + 1))) = some ((R mul add s flat (q * s + s), q * s, s), (mul, add, ()), ()) := by
      unfold impl_Transform_2_j2 impl_Transform_2_g2
      rw [gate_pos hN, succ_in hlt (by omega)]
      exact ih
    have snd : ∀ y, (fm1 mul i flat[q * s + i] = y) → impl_Transform_2_j1 N (impl_Transform_2_l0 N n (R mul add s flat (q * s), q * s, s) (mul, add, ())) (R mul add s flat (q * s), q * s, s) (mul, add, ()) (i : Int) ((R mul add s flat (q * s + i)).set (q * s + i) y) = some ((R mul add s flat (q * s + s), q * s, s), (mul, add, ()), ()) := by
      rintro y rfl
      unfold impl_Transform_2_j1 impl_Transform_2_g1
      rw [gate_pos hN, Bool.cond_decide]
      by_cases h : i < add.length
      · rw [if_pos (by exact_mod_cast h), bind_chk hlt]
        rw [List.getElem?_set_self (by rw [R_len]; exact hf)]
        simp only [Option.bind_some]
        rw [nth_get h]
        simp only [Option.bind_some]
        rw [e2 h]
        simp only [Option.bind_some]
        rw [bind_chk hlt, List.set_set]
        show impl_Transform_2_j2 _ _ _ _ _ ((R mul add s flat (q * s + i)).set (q * s + i) (fm mul add i flat[q * s + i])) = _
        rw [hset]
        exact last
      · rw [if_neg (by show ¬ ((i : Int) < (add.length : Int)); omega)]
        have : fm1 mul i flat[q * s + i] = fm mul add i flat[q * s + i] := by unfold fm fm2; rw [dif_neg h]
        rw [this, hset]
        exact last
    simp only [impl_Transform_2_l0, impl_Transform_2_g0, Bool.cond_decide]
    rw [if_pos (by omega)]
    by_cases h : i < mul.length
    · rw [if_pos (by exact_mod_cast h), bind_chk hlt, R_get hf]
      simp only [Option.bind_some]
      rw [nth_get h]
      simp only [Option.bind_some]
      rw [e1 h]
      simp only [Option.bind_some]
      rw [bind_chk hlt]
      exact snd _ rfl
    · rw [if_neg (by show ¬ ((i : Int) < (mul.length : Int)); omega)]
      have : fm1 mul i flat[q * s + i] = flat[q * s + i] := by unfold fm1; rw [dif_neg h]
      have h2 := snd _ this
      rw [set_same (R_get hf)] at h2
      exact h2
theorem place0 {s q : Nat} {flat : List Nat} (hs : 0 < s) (hq : ∀ x ∈ flat, Q x) (hw : q * s + s ≤ flat.length) (hl : flat.length ≤ 4294967296) :
    impl_Transform_2 N (R mul add s flat (q * s), q * s, s) (mul, add, ()) = some ((R mul add s flat (q * s + s), q * s, s), (mul, add, ()), ()) := by
  unfold impl_Transform_2 impl_Transform_2_g
  exact place hN hNl hm ha hs hq hw hl s 0 N (by omega) (by omega)
/-- All places. -/
theorem places {α : Type} {s : Nat} {st : Int} {flat : List Nat} (hst : st = (s : Int)) (hs : 0 < s) (hq : ∀ x ∈ flat, Q x) (hl : flat.length ≤ 4294967296) (L : Nat → Int → List Nat → List Nat → List Nat → Option α) (fin : List Nat → Option α)
    (hL : ∀ n v7 v8, L (n + 1) v7 v8 mul add = (bif (decide ((v7 : Int) < (flat.length : Int))) then ((chk2 v7 (IntKind.i64.wrap (v7 + st)) v8.length).bind fun v11 => (impl_Transform_2 N (v8, v11.1, (v11.2 - v11.1)) (mul, add, ())).bind fun v12 => (bif ((((Nat.ble 1 (v11.2 - v11.1) && Nat.beq v12.1.2.1 v11.1) && Nat.beq v12.1.2.2 (v11.2 - v11.1)) && Nat.beq v12.1.1.length v8.length) && true) then (L n (IntKind.i64.wrap (v7 + st)) v12.1.1 v12.2.1.1 v12.2.1.2.1) else none)) else fin v8)) :
    ∀ (c q n : Nat), q * s + c * s = flat.length → c + 1 ≤ n → L n ((q * s : Nat) : Int) (R mul add s flat (q * s)) mul add = fin (R mul add s flat flat.length)
  | 0, q, n, hc, hn => by
    obtain ⟨n, rfl⟩ : ∃ m, n = m + 1 := ⟨n - 1, by omega⟩
    rw [hL, Bool.cond_decide, if_neg (by omega), show q * s = flat.length by omega]
  | c + 1, q, n, hc, hn => by
    obtain ⟨n, rfl⟩ : ∃ m, n = m + 1 := ⟨n - 1, by omega⟩
    have hc' : q * s + s + c * s = flat.length := by rw [← hc, Nat.succ_mul]; omega
    have hw : q * s + s ≤ flat.length := by omega
    have ih := places hst hs hq hl L fin hL c (q + 1) n (by rw [Nat.succ_mul]; omega) (by omega)
    rw [hL, Bool.cond_decide, if_pos (by omega), hst]
    rw [wrap_in (n := ((q * s : Nat) : Int) + (s : Int)) (by omega), chk2_int (by rw [R_len]; omega)]
    simp only [Option.bind_some]
    rw [show ((q * s : Nat) : Int).toNat = q * s by omega, show (((q * s : Nat) : Int) + (s : Int)).toNat = q * s + s by omega, show q * s + s - q * s = s by omega]
    rw [place0 hN hNl hm ha hs hq hw hl]
    simp only [Option.bind_some]
    rw [show (((((Nat.ble 1 s && Nat.beq (q * s) (q * s)) && Nat.beq s s) && Nat.beq (R mul add s flat (q * s + s)).length (R mul add s flat (q * s)).length)) && true) = true by
      rw [R_len, R_len, Nat.ble_eq_true_of_le (by omega), Nat.beq_refl, Nat.beq_refl, Nat.beq_refl]; rfl, cond_true]
    rw [show ((q * s : Nat) : Int) + (s : Int) = (((q + 1) * s : Nat) : Int) by rw [Nat.succ_mul]; omega, show q * s + s = (q + 1) * s by rw [Nat.succ_mul]]
    exact ih
theorem places0 {α : Type} {s : Nat} {st : Int} {flat : List Nat} (hst : st = (s : Int)) (hs : 0 < s) (hq : ∀ x ∈ flat, Q x) (hl : flat.length ≤ 4294967296) (hd : s ∣ flat.length) (L : Nat → Int → List Nat → List Nat → List Nat → Option α) (fin : List Nat → Option α)
    (hL : ∀ n v7 v8, L (n + 1) v7 v8 mul add = (bif (decide ((v7 : Int) < (flat.length : Int))) then ((chk2 v7 (IntKind.i64.wrap (v7 + st)) v8.length).bind fun v11 => (impl_Transform_2 N (v8, v11.1, (v11.2 - v11.1)) (mul, add, ())).bind fun v12 => (bif ((((Nat.ble 1 (v11.2 - v11.1) && Nat.beq v12.1.2.1 v11.1) && Nat.beq v12.1.2.2 (v11.2 - v11.1)) && Nat.beq v12.1.1.length v8.length) && true) then (L n (IntKind.i64.wrap (v7 + st)) v12.1.1 v12.2.1.1 v12.2.1.2.1) else none)) else fin v8)) :
    L N 0 flat mul add = fin (R mul add s flat flat.length) := by
  obtain ⟨c, hc⟩ := hd
  have hcl : c ≤ flat.length := by rw [hc]; exact Nat.le_mul_of_pos_left c hs
  have h := places hN hNl hm ha hst hs hq hl L fin hL c 0 N (by rw [hc, Nat.mul_comm c s]; omega) (by omega)
  rw [Nat.zero_mul, R_zero] at h
  exact h
section
variable {ly sr st : Int} {s : Nat} {flat : List Nat} (hst : st = (s : Int)) (hs : 0 < s) (hq : ∀ x ∈ flat, Q x) (hl : flat.length ≤ 4294967296) (hd : s ∣ flat.length)
include hst hs hq hl hd
theorem tp_a : gogeom_TransformInPlace N (ly, st, flat, sr, ()) ((mul, add, ()), ()) = some ((), (ly, st, R mul add s flat flat.length, sr, ()), ((mul, add, ()), ()), ()) :=
  places0 hN hNl hm ha hst hs hq hl hd (fun n a b c d => gogeom_TransformInPlace_l0 N n (st, ()) ((), (ly, st, flat, sr, ()), ()) a b c d) (fun v8 => some ((), (ly, st, v8, sr, ()), ((mul, add, ()), ()), ())) (fun n a b => rfl)
theorem tp_b : gogeom_TransformInPlace_b N (ly, st, flat, sr, ()) ((mul, add, ()), ()) = some ((), (ly, st, R mul add s flat flat.length, sr, ()), ((mul, add, ()), ()), ()) :=
  places0 hN hNl hm ha hst hs hq hl hd (fun n a b c d => gogeom_TransformInPlace_b_l0 N n (st, ()) ((), (ly, st, flat, sr, ()), ()) a b c d) (fun v8 => some ((), (ly, st, v8, sr, ()), ((mul, add, ()), ()), ())) (fun n a b => rfl)
theorem tp_c : gogeom_TransformInPlace_c N (ly, st, flat, sr, ()) ((mul, add, ()), ()) = some ((), (ly, st, R mul add s flat flat.length, sr, ()), ((mul, add, ()), ()), ()) :=
  places0 hN hNl hm ha hst hs hq hl hd (fun n a b c d => gogeom_TransformInPlace_c_l0 N n (st, ()) ((), (ly, st, flat, sr, ()), ()) a b c d) (fun v8 => some ((), (ly, st, v8, sr, ()), ((mul, add, ()), ()), ())) (fun n a b => rfl)
theorem tp_d (ends : List Int) : gogeom_TransformInPlace_d N (ly, st, flat, sr, ends, ()) ((mul, add, ()), ()) = some ((), (ly, st, R mul add s flat flat.length, sr, ends, ()), ((mul, add, ()), ()), ()) :=
  places0 hN hNl hm ha hst hs hq hl hd (fun n a b c d => gogeom_TransformInPlace_d_l0 N n (st, (ly, st, flat, sr, ends, ()), ()) a b c d) (fun v8 => some ((), (ly, st, v8, sr, ends, ()), ((mul, add, ()), ()), ())) (fun n a b => rfl)
theorem tp_e (ends : List Int) : gogeom_TransformInPlace_e N (ly, st, flat, sr, ends, ()) ((mul, add, ()), ()) = some ((), (ly, st, R mul add s flat flat.length, sr, ends, ()), ((mul, add, ()), ()), ()) :=
  places0 hN hNl hm ha hst hs hq hl hd (fun n a b c d => gogeom_TransformInPlace_e_l0 N n (st, (ly, st, flat, sr, ends, ()), ()) a b c d) (fun v8 => some ((), (ly, st, v8, sr, ends, ()), ((mul, add, ()), ()), ())) (fun n a b => rfl)
theorem tp_f (ends : List Int) : gogeom_TransformInPlace_f N (ly, st, flat, sr, ends, ()) ((mul, add, ()), ()) = some ((), (ly, st, R mul add s flat flat.length, sr, ends, ()), ((mul, add, ()), ()), ()) :=
  places0 hN hNl hm ha hst hs hq hl hd (fun n a b c d => gogeom_TransformInPlace_f_l0 N n (st, (ly, st, flat, sr, ends, ()), ()) a b c d) (fun v8 => some ((), (ly, st, v8, sr, ends, ()), ((mul, add, ()), ()), ())) (fun n a b => rfl)
theorem tp_h (endss : List (List Int)) : gogeom_TransformInPlace_h N (ly, st, flat, sr, endss, ()) ((mul, add, ()), ()) = some ((), (ly, st, R mul add s flat flat.length, sr, endss, ()), ((mul, add, ()), ()), ()) :=
  places0 hN hNl hm ha hst hs hq hl hd (fun n a b c d => gogeom_TransformInPlace_h_l0 N n (st, (ly, st, flat, sr, endss, ()), ()) a b c d) (fun v8 => some ((), (ly, st, v8, sr, endss, ()), ((mul, add, ()), ()), ())) (fun n a b => rfl)
end
end
theorem intss_loop (l : List (List Int)) (hl : l.length * 24 ≤ 140737488355328) (hin : ∀ x ∈ l, x.length * 8 ≤ 140737488355328) : ∀ (c i n : Nat), i + c = l.length → c + 1 ≤ n →
    impl_intss_l0 N n l (i : Int) (l.take i) = some (l, ())
  | 0, i, n, hi, hn => by
    obtain ⟨n, rfl⟩ : ∃ m, n = m + 1 := ⟨n - 1, by omega⟩
    simp only [impl_intss_l0, impl_intss_g0]
    have : decide ((i : Int) < (l.length : Int)) = false := by simp only [decide_eq_false_iff_not]; omega
    rw [this, cond_false, List.take_of_length_le (by omega)]
  | c + 1, i, n, hi, hn => by
    obtain ⟨n, rfl⟩ : ∃ m, n = m + 1 := ⟨n - 1, by omega⟩
    have hlt : i < l.length := by omega
    have ih := intss_loop l hl hin c (i + 1) n (by omega) (by omega)
    simp only [impl_intss_l0, impl_intss_g0]
    have : decide ((i : Int) < (l.length : Int)) = true := by simp only [decide_eq_true_eq]; omega
    rw [this, cond_true, nth_get hlt]
    simp only [Option.bind_some, impl_ints, impl_ints_g]
    rw [lim_le (hin _ (List.getElem_mem hlt))]
    simp only [Option.bind_some]
    rw [lim_le (by simp only [List.length_take, List.length_cons, List.length_nil]; omega), succ_in hlt (by omega)]
    simp only [Option.bind_some]
    rw [← ih, take_snoc hlt]
theorem intss (l : List (List Int)) (hl : l.length * 24 ≤ 140737488355328) (hin : ∀ x ∈ l, x.length * 8 ≤ 140737488355328) : impl_intss N l = some (l, ()) := by
  unfold impl_intss impl_intss_g
  exact intss_loop hN hNl l hl hin l.length 0 N (by omega) (by omega)
theorem geom_eq (g : Geo) : impl_geometry N N g = impl_geometry_g N (impl_geometry N (N - 1)) g (impl_geometry_l0 N (impl_geometry N (N - 1)) N) := by
  obtain ⟨M, rfl⟩ : ∃ M, N = M + 1 := ⟨N - 1, by omega⟩
  rfl
omit hN hNl in
theorem agree_same {α : Type} {x : Option α} {z : Option α} (h : z = x) : agree z x = x := by unfold agree; rw [if_pos h]; exact h
/-- The ends of a multi point stay. -/
theorem mp_flat {ly s sr : Int} {flat : List Nat} {ends : List Int} (h1 : 1 ≤ ly) (hs : strd ly = s) (h0 : 0 < s) (hc : Chain s 0 ends flat.length) :
    gogeom_NewMultiPointFlat N ly flat (((ends, ()), ()), ()) = some ((ly, s, flat, 0, ends, ()), (((ends, ()), ()), ()), ()) := by
  obtain ⟨M, hM⟩ : ∃ M, N = M + 2 := ⟨N - 2, by omega⟩
  unfold gogeom_NewMultiPointFlat gogeom_NewMultiPointFlat_g
  rw [stride_geom N ly h1, hs]
  simp only [Option.bind_some]
  have e1 : gogeom_NewMultiPointFlat_l0 N N 0 ly s 0 [] flat ends = gogeom_NewMultiPointFlat_l0 N (M + 1) 1 ly s 0 ends flat ends := by
    conv => lhs; arg 2; rw [hM]
    simp only [gogeom_NewMultiPointFlat_l0, gogeom_NewMultiPointFlat_g0, Bool.cond_decide, gogeom_NewMultiPointFlatOptionWithEnds_1_b, gogeom_NewMultiPointFlatOptionWithEnds_1_b_g]
    rw [if_pos (by omega), if_pos (by rfl)]
    simp only [Option.bind_some]
    rw [wrap_in (by omega)]
    rfl
  rw [e1]
  have j4 : gogeom_NewMultiPointFlat_j4 N ly s 0 ends flat ends = some ((ly, s, flat, 0, ends, ()), (((ends, ()), ()), ()), ()) := by
    unfold gogeom_NewMultiPointFlat_j4 gogeom_NewMultiPointFlat_g4
    rw [gate_pos hN]
  have j1 : gogeom_NewMultiPointFlat_j1 N ly s 0 ends flat ends = some ((ly, s, flat, 0, ends, ()), (((ends, ()), ()), ()), ()) := by
    unfold gogeom_NewMultiPointFlat_j1 gogeom_NewMultiPointFlat_g1
    rw [gate_pos hN, j4]
  unfold gogeom_NewMultiPointFlat_l0 gogeom_NewMultiPointFlat_g0
  rw [Bool.cond_decide, if_neg (by omega)]
  cases hb : Nat.ble 1 ends.length with
  | true => rw [cond_true, j1]
  | false =>
    have he : ends = [] := by
      have : ¬ 1 ≤ ends.length := fun h => by rw [Nat.ble_eq_true_of_le h] at hb; cases hb
      exact List.length_eq_zero_iff.1 (by omega)
    subst he
    simp only [Chain] at hc
    rw [cond_false, j1]
    refine agree_same ?_
    rw [gate_pos hN, Bool.cond_decide, if_neg (by omega), j4]
include hm ha in
/-- The geometry that is transformed. -/
theorem trans_of (g : Geo) (hw : wfG g) (gf : GoodF g) (l1 : 1 ≤ g.layout) (hlen : g.flat.length ≤ 2147483647) (hle : g.ends.length ≤ 2147483647) (hq : ∀ x ∈ g.flat, Q x) :
    impl_Transform N g (mul, add, ()) = some ((g.kind, g.layout, g.srid, R mul add (strd g.layout).toNat g.flat g.flat.length, g.ends, g.endss, ([] : List Geo), ()), true, ()) := by
  have hsz := (sz_of hw).1
  have hends : g.ends.length * 8 ≤ 140737488355328 ∧ g.endss.length * 24 ≤ 140737488355328 ∧ ∀ x ∈ g.endss, x.length * 8 ≤ 140737488355328 := by
    cases g with
    | mk kd ly sr flat ends endss kids =>
      simp only [wfG] at hw
      unfold fits at hw
      simp only [Geo.ends, Geo.endss]
      refine ⟨by omega, by omega, fun x hx => ?_⟩
      have := (hw.2.2.2.2.2.1.2 x hx).1
      omega
  unfold impl_Transform impl_Transform_g
  rw [eta, geom_eq hN hNl]
  unfold impl_geometry_g
  unfold impl_floats impl_floats_g
  rw [lim_le (n := g.flat.length * 8) (by omega)]
  generalize hS : strd g.layout = s
  have h0 : 0 < s := hS ▸ gf.pos
  have hwh : s ∣ (g.flat.length : Int) := hS ▸ gf.whole
  have hst : s = (s.toNat : Int) := by omega
  have hdv : s.toNat ∣ g.flat.length := by rw [hst] at hwh; exact Int.natCast_dvd_natCast.1 hwh
  have mp := fun h => mp_flat hN hNl (sr := g.srid) (ends := g.ends) (flat := g.flat) l1 hS h0 h
  have ta := tp_a hN hNl hm ha (ly := g.layout) (sr := g.srid) hst (by omega) hq (by omega) hdv
  have tb := tp_b hN hNl hm ha (ly := g.layout) (sr := g.srid) hst (by omega) hq (by omega) hdv
  have tc := tp_c hN hNl hm ha (ly := g.layout) (sr := g.srid) hst (by omega) hq (by omega) hdv
  have td := tp_d hN hNl hm ha (ly := g.layout) (sr := g.srid) hst (by omega) hq (by omega) hdv g.ends
  have te := tp_e hN hNl hm ha (ly := g.layout) (sr := g.srid) hst (by omega) hq (by omega) hdv g.ends
  have tf := tp_f hN hNl hm ha (ly := g.layout) (sr := g.srid) hst (by omega) hq (by omega) hdv g.ends
  have th := tp_h hN hNl hm ha (ly := g.layout) (sr := g.srid) hst (by omega) hq (by omega) hdv g.endss
  have i0 : impl_intss N [] = some ([], ()) := intss hN hNl [] (by simp) (by simp)
  have i1 : impl_intss N g.endss = some (g.endss, ()) := intss hN hNl _ hends.2.1 hends.2.2
  have rl : (R mul add s.toNat g.flat g.flat.length).length * 8 ≤ 140737488355328 := by rw [R_len]; omega
  rcases gf.kind with e | e | e | e | e | e | e
  all_goals
    rw [e]
    simp only [Option.bind_some, show ((1 : Int) == 1) = true from rfl, show ((2 : Int) == 1) = false from rfl, show ((2 : Int) == 2) = true from rfl, show ((8 : Int) == 1) = false from rfl, show ((8 : Int) == 2) = false from rfl, show ((8 : Int) == 8) = true from rfl,
      show ((3 : Int) == 1) = false from rfl, show ((3 : Int) == 2) = false from rfl, show ((3 : Int) == 8) = false from rfl, show ((3 : Int) == 3) = true from rfl,
      show ((4 : Int) == 1) = false from rfl, show ((4 : Int) == 2) = false from rfl, show ((4 : Int) == 8) = false from rfl, show ((4 : Int) == 3) = false from rfl, show ((4 : Int) == 4) = true from rfl,
      show ((5 : Int) == 1) = false from rfl, show ((5 : Int) == 2) = false from rfl, show ((5 : Int) == 8) = false from rfl, show ((5 : Int) == 3) = false from rfl, show ((5 : Int) == 4) = false from rfl, show ((5 : Int) == 5) = true from rfl,
      show ((6 : Int) == 1) = false from rfl, show ((6 : Int) == 2) = false from rfl, show ((6 : Int) == 8) = false from rfl, show ((6 : Int) == 3) = false from rfl, show ((6 : Int) == 4) = false from rfl, show ((6 : Int) == 5) = false from rfl, show ((6 : Int) == 6) = true from rfl,
      cond_true, cond_false, gogeom_NewPointFlat_b, gogeom_NewPointFlat_b_g, gogeom_Point_SetSRID, gogeom_Point_SetSRID_g, gogeom_NewLineStringFlat_b, gogeom_NewLineStringFlat_b_g, gogeom_NewLinearRingFlat_b, gogeom_NewLinearRingFlat_b_g, gogeom_NewPolygonFlat_b, gogeom_NewPolygonFlat_b_g,
      gogeom_NewMultiLineStringFlat_b, gogeom_NewMultiLineStringFlat_b_g, gogeom_NewMultiPolygonFlat, gogeom_NewMultiPolygonFlat_g, gogeom_LineString_SetSRID, gogeom_LineString_SetSRID_g, gogeom_LinearRing_SetSRID, gogeom_LinearRing_SetSRID_g,
      gogeom_Polygon_SetSRID, gogeom_Polygon_SetSRID_g, gogeom_MultiLineString_SetSRID, gogeom_MultiLineString_SetSRID_g, gogeom_MultiPolygon_SetSRID, gogeom_MultiPolygon_SetSRID_g, gogeom_MultiPoint_SetSRID, gogeom_MultiPoint_SetSRID_g,
      gogeom_NewMultiPointFlatOptionWithEnds, gogeom_NewMultiPointFlatOptionWithEnds_g,
      stride_geom N g.layout l1, impl_ints, impl_ints_g, lim_le hends.1, i1, Sum.elim_inl, Sum.elim_inr, hS]
  · have he := (gf.point e).1
    have hss := gf.noss (by omega)
    simp only [ta, Option.bind_some, Sum.elim_inl, Sum.elim_inr, gogeom_geom0_FlatCoords_b_g, gogeom_geom0_FlatCoords_b, gogeom_geom0_Stride_g, gogeom_geom0_Stride, gogeom_geom0_SRID_g, gogeom_geom0_SRID, gogeom_geom0_Layout_g, gogeom_geom0_Layout, gogeom_geom0_Ends_g, gogeom_geom0_Ends, gogeom_geom0_Endss_b_g, gogeom_geom0_Endss_b, impl_plain_g, impl_plain, impl_plain_b_g, impl_plain_b, impl_plain_c_g, impl_plain_c, gogeom_geom0_FlatCoords_c_g, gogeom_geom0_FlatCoords_c, gogeom_geom0_Stride_b_g, gogeom_geom0_Stride_b, gogeom_geom0_SRID_b_g, gogeom_geom0_SRID_b, gogeom_geom0_Layout_c_g, gogeom_geom0_Layout_c, gogeom_geom2_Ends_b_g, gogeom_geom2_Ends_b, gogeom_geom0_Endss_d_g, gogeom_geom0_Endss_d, impl_plain_d_g, impl_plain_d, gogeom_geom0_FlatCoords_d_g, gogeom_geom0_FlatCoords_d, gogeom_geom0_Stride_c_g, gogeom_geom0_Stride_c, gogeom_geom0_SRID_c_g, gogeom_geom0_SRID_c, gogeom_geom0_Layout_d_g, gogeom_geom0_Layout_d, gogeom_geom2_Ends_c_g, gogeom_geom2_Ends_c, impl_plain_e_g, impl_plain_e, impl_plain_f_g, impl_plain_f, gogeom_geom0_FlatCoords_e_g, gogeom_geom0_FlatCoords_e, gogeom_geom0_Stride_d_g, gogeom_geom0_Stride_d, gogeom_geom0_SRID_d_g, gogeom_geom0_SRID_d, gogeom_geom0_Layout_f_g, gogeom_geom0_Layout_f, gogeom_geom0_Ends_b_g, gogeom_geom0_Ends_b, gogeom_geom3_Endss_b_g, gogeom_geom3_Endss_b, impl_plain_h_g, impl_plain_h, impl_floats, impl_floats_g, lim_le rl, impl_ints, impl_ints_g, lim_le hends.1, i0, i1, he, hss, List.length_nil, Nat.zero_mul, lim_le (Nat.zero_le _)]
  · have he := gf.line (.inl e)
    have hss := gf.noss (by omega)
    simp only [tb, Option.bind_some, Sum.elim_inl, Sum.elim_inr, gogeom_geom0_FlatCoords_b_g, gogeom_geom0_FlatCoords_b, gogeom_geom0_Stride_g, gogeom_geom0_Stride, gogeom_geom0_SRID_g, gogeom_geom0_SRID, gogeom_geom0_Layout_g, gogeom_geom0_Layout, gogeom_geom0_Ends_g, gogeom_geom0_Ends, gogeom_geom0_Endss_b_g, gogeom_geom0_Endss_b, impl_plain_g, impl_plain, impl_plain_b_g, impl_plain_b, impl_plain_c_g, impl_plain_c, gogeom_geom0_FlatCoords_c_g, gogeom_geom0_FlatCoords_c, gogeom_geom0_Stride_b_g, gogeom_geom0_Stride_b, gogeom_geom0_SRID_b_g, gogeom_geom0_SRID_b, gogeom_geom0_Layout_c_g, gogeom_geom0_Layout_c, gogeom_geom2_Ends_b_g, gogeom_geom2_Ends_b, gogeom_geom0_Endss_d_g, gogeom_geom0_Endss_d, impl_plain_d_g, impl_plain_d, gogeom_geom0_FlatCoords_d_g, gogeom_geom0_FlatCoords_d, gogeom_geom0_Stride_c_g, gogeom_geom0_Stride_c, gogeom_geom0_SRID_c_g, gogeom_geom0_SRID_c, gogeom_geom0_Layout_d_g, gogeom_geom0_Layout_d, gogeom_geom2_Ends_c_g, gogeom_geom2_Ends_c, impl_plain_e_g, impl_plain_e, impl_plain_f_g, impl_plain_f, gogeom_geom0_FlatCoords_e_g, gogeom_geom0_FlatCoords_e, gogeom_geom0_Stride_d_g, gogeom_geom0_Stride_d, gogeom_geom0_SRID_d_g, gogeom_geom0_SRID_d, gogeom_geom0_Layout_f_g, gogeom_geom0_Layout_f, gogeom_geom0_Ends_b_g, gogeom_geom0_Ends_b, gogeom_geom3_Endss_b_g, gogeom_geom3_Endss_b, impl_plain_h_g, impl_plain_h, impl_floats, impl_floats_g, lim_le rl, impl_ints, impl_ints_g, lim_le hends.1, i0, i1, he, hss, List.length_nil, Nat.zero_mul, lim_le (Nat.zero_le _)]
  · have he := gf.line (.inr e)
    have hss := gf.noss (by omega)
    simp only [tc, Option.bind_some, Sum.elim_inl, Sum.elim_inr, gogeom_geom0_FlatCoords_b_g, gogeom_geom0_FlatCoords_b, gogeom_geom0_Stride_g, gogeom_geom0_Stride, gogeom_geom0_SRID_g, gogeom_geom0_SRID, gogeom_geom0_Layout_g, gogeom_geom0_Layout, gogeom_geom0_Ends_g, gogeom_geom0_Ends, gogeom_geom0_Endss_b_g, gogeom_geom0_Endss_b, impl_plain_g, impl_plain, impl_plain_b_g, impl_plain_b, impl_plain_c_g, impl_plain_c, gogeom_geom0_FlatCoords_c_g, gogeom_geom0_FlatCoords_c, gogeom_geom0_Stride_b_g, gogeom_geom0_Stride_b, gogeom_geom0_SRID_b_g, gogeom_geom0_SRID_b, gogeom_geom0_Layout_c_g, gogeom_geom0_Layout_c, gogeom_geom2_Ends_b_g, gogeom_geom2_Ends_b, gogeom_geom0_Endss_d_g, gogeom_geom0_Endss_d, impl_plain_d_g, impl_plain_d, gogeom_geom0_FlatCoords_d_g, gogeom_geom0_FlatCoords_d, gogeom_geom0_Stride_c_g, gogeom_geom0_Stride_c, gogeom_geom0_SRID_c_g, gogeom_geom0_SRID_c, gogeom_geom0_Layout_d_g, gogeom_geom0_Layout_d, gogeom_geom2_Ends_c_g, gogeom_geom2_Ends_c, impl_plain_e_g, impl_plain_e, impl_plain_f_g, impl_plain_f, gogeom_geom0_FlatCoords_e_g, gogeom_geom0_FlatCoords_e, gogeom_geom0_Stride_d_g, gogeom_geom0_Stride_d, gogeom_geom0_SRID_d_g, gogeom_geom0_SRID_d, gogeom_geom0_Layout_f_g, gogeom_geom0_Layout_f, gogeom_geom0_Ends_b_g, gogeom_geom0_Ends_b, gogeom_geom3_Endss_b_g, gogeom_geom3_Endss_b, impl_plain_h_g, impl_plain_h, impl_floats, impl_floats_g, lim_le rl, impl_ints, impl_ints_g, lim_le hends.1, i0, i1, he, hss, List.length_nil, Nat.zero_mul, lim_le (Nat.zero_le _)]
  · have hss := gf.noss (by omega)
    simp only [td, Option.bind_some, Sum.elim_inl, Sum.elim_inr, gogeom_geom0_FlatCoords_b_g, gogeom_geom0_FlatCoords_b, gogeom_geom0_Stride_g, gogeom_geom0_Stride, gogeom_geom0_SRID_g, gogeom_geom0_SRID, gogeom_geom0_Layout_g, gogeom_geom0_Layout, gogeom_geom0_Ends_g, gogeom_geom0_Ends, gogeom_geom0_Endss_b_g, gogeom_geom0_Endss_b, impl_plain_g, impl_plain, impl_plain_b_g, impl_plain_b, impl_plain_c_g, impl_plain_c, gogeom_geom0_FlatCoords_c_g, gogeom_geom0_FlatCoords_c, gogeom_geom0_Stride_b_g, gogeom_geom0_Stride_b, gogeom_geom0_SRID_b_g, gogeom_geom0_SRID_b, gogeom_geom0_Layout_c_g, gogeom_geom0_Layout_c, gogeom_geom2_Ends_b_g, gogeom_geom2_Ends_b, gogeom_geom0_Endss_d_g, gogeom_geom0_Endss_d, impl_plain_d_g, impl_plain_d, gogeom_geom0_FlatCoords_d_g, gogeom_geom0_FlatCoords_d, gogeom_geom0_Stride_c_g, gogeom_geom0_Stride_c, gogeom_geom0_SRID_c_g, gogeom_geom0_SRID_c, gogeom_geom0_Layout_d_g, gogeom_geom0_Layout_d, gogeom_geom2_Ends_c_g, gogeom_geom2_Ends_c, impl_plain_e_g, impl_plain_e, impl_plain_f_g, impl_plain_f, gogeom_geom0_FlatCoords_e_g, gogeom_geom0_FlatCoords_e, gogeom_geom0_Stride_d_g, gogeom_geom0_Stride_d, gogeom_geom0_SRID_d_g, gogeom_geom0_SRID_d, gogeom_geom0_Layout_f_g, gogeom_geom0_Layout_f, gogeom_geom0_Ends_b_g, gogeom_geom0_Ends_b, gogeom_geom3_Endss_b_g, gogeom_geom3_Endss_b, impl_plain_h_g, impl_plain_h, impl_floats, impl_floats_g, lim_le rl, impl_ints, impl_ints_g, lim_le hends.1, i0, i1, hss, List.length_nil, Nat.zero_mul, lim_le (Nat.zero_le _)]
  · have hss := gf.noss (by omega)
    have hc := gf.parts (.inr (.inl e))
    rw [hS] at hc
    simp only [mp hc, te, Option.bind_some, Sum.elim_inl, Sum.elim_inr, gogeom_geom0_FlatCoords_b_g, gogeom_geom0_FlatCoords_b, gogeom_geom0_Stride_g, gogeom_geom0_Stride, gogeom_geom0_SRID_g, gogeom_geom0_SRID, gogeom_geom0_Layout_g, gogeom_geom0_Layout, gogeom_geom0_Ends_g, gogeom_geom0_Ends, gogeom_geom0_Endss_b_g, gogeom_geom0_Endss_b, impl_plain_g, impl_plain, impl_plain_b_g, impl_plain_b, impl_plain_c_g, impl_plain_c, gogeom_geom0_FlatCoords_c_g, gogeom_geom0_FlatCoords_c, gogeom_geom0_Stride_b_g, gogeom_geom0_Stride_b, gogeom_geom0_SRID_b_g, gogeom_geom0_SRID_b, gogeom_geom0_Layout_c_g, gogeom_geom0_Layout_c, gogeom_geom2_Ends_b_g, gogeom_geom2_Ends_b, gogeom_geom0_Endss_d_g, gogeom_geom0_Endss_d, impl_plain_d_g, impl_plain_d, gogeom_geom0_FlatCoords_d_g, gogeom_geom0_FlatCoords_d, gogeom_geom0_Stride_c_g, gogeom_geom0_Stride_c, gogeom_geom0_SRID_c_g, gogeom_geom0_SRID_c, gogeom_geom0_Layout_d_g, gogeom_geom0_Layout_d, gogeom_geom2_Ends_c_g, gogeom_geom2_Ends_c, impl_plain_e_g, impl_plain_e, impl_plain_f_g, impl_plain_f, gogeom_geom0_FlatCoords_e_g, gogeom_geom0_FlatCoords_e, gogeom_geom0_Stride_d_g, gogeom_geom0_Stride_d, gogeom_geom0_SRID_d_g, gogeom_geom0_SRID_d, gogeom_geom0_Layout_f_g, gogeom_geom0_Layout_f, gogeom_geom0_Ends_b_g, gogeom_geom0_Ends_b, gogeom_geom3_Endss_b_g, gogeom_geom3_Endss_b, impl_plain_h_g, impl_plain_h, impl_floats, impl_floats_g, lim_le rl, impl_ints, impl_ints_g, lim_le hends.1, i0, i1, hss, List.length_nil, Nat.zero_mul, lim_le (Nat.zero_le _)]
  · have hss := gf.noss (by omega)
    simp only [tf, Option.bind_some, Sum.elim_inl, Sum.elim_inr, gogeom_geom0_FlatCoords_b_g, gogeom_geom0_FlatCoords_b, gogeom_geom0_Stride_g, gogeom_geom0_Stride, gogeom_geom0_SRID_g, gogeom_geom0_SRID, gogeom_geom0_Layout_g, gogeom_geom0_Layout, gogeom_geom0_Ends_g, gogeom_geom0_Ends, gogeom_geom0_Endss_b_g, gogeom_geom0_Endss_b, impl_plain_g, impl_plain, impl_plain_b_g, impl_plain_b, impl_plain_c_g, impl_plain_c, gogeom_geom0_FlatCoords_c_g, gogeom_geom0_FlatCoords_c, gogeom_geom0_Stride_b_g, gogeom_geom0_Stride_b, gogeom_geom0_SRID_b_g, gogeom_geom0_SRID_b, gogeom_geom0_Layout_c_g, gogeom_geom0_Layout_c, gogeom_geom2_Ends_b_g, gogeom_geom2_Ends_b, gogeom_geom0_Endss_d_g, gogeom_geom0_Endss_d, impl_plain_d_g, impl_plain_d, gogeom_geom0_FlatCoords_d_g, gogeom_geom0_FlatCoords_d, gogeom_geom0_Stride_c_g, gogeom_geom0_Stride_c, gogeom_geom0_SRID_c_g, gogeom_geom0_SRID_c, gogeom_geom0_Layout_d_g, gogeom_geom0_Layout_d, gogeom_geom2_Ends_c_g, gogeom_geom2_Ends_c, impl_plain_e_g, impl_plain_e, impl_plain_f_g, impl_plain_f, gogeom_geom0_FlatCoords_e_g, gogeom_geom0_FlatCoords_e, gogeom_geom0_Stride_d_g, gogeom_geom0_Stride_d, gogeom_geom0_SRID_d_g, gogeom_geom0_SRID_d, gogeom_geom0_Layout_f_g, gogeom_geom0_Layout_f, gogeom_geom0_Ends_b_g, gogeom_geom0_Ends_b, gogeom_geom3_Endss_b_g, gogeom_geom3_Endss_b, impl_plain_h_g, impl_plain_h, impl_floats, impl_floats_g, lim_le rl, impl_ints, impl_ints_g, lim_le hends.1, i0, i1, hss, List.length_nil, Nat.zero_mul, lim_le (Nat.zero_le _)]
  · have he := (gf.multi e).1
    simp only [th, Option.bind_some, Sum.elim_inl, Sum.elim_inr, gogeom_geom0_FlatCoords_b_g, gogeom_geom0_FlatCoords_b, gogeom_geom0_Stride_g, gogeom_geom0_Stride, gogeom_geom0_SRID_g, gogeom_geom0_SRID, gogeom_geom0_Layout_g, gogeom_geom0_Layout, gogeom_geom0_Ends_g, gogeom_geom0_Ends, gogeom_geom0_Endss_b_g, gogeom_geom0_Endss_b, impl_plain_g, impl_plain, impl_plain_b_g, impl_plain_b, impl_plain_c_g, impl_plain_c, gogeom_geom0_FlatCoords_c_g, gogeom_geom0_FlatCoords_c, gogeom_geom0_Stride_b_g, gogeom_geom0_Stride_b, gogeom_geom0_SRID_b_g, gogeom_geom0_SRID_b, gogeom_geom0_Layout_c_g, gogeom_geom0_Layout_c, gogeom_geom2_Ends_b_g, gogeom_geom2_Ends_b, gogeom_geom0_Endss_d_g, gogeom_geom0_Endss_d, impl_plain_d_g, impl_plain_d, gogeom_geom0_FlatCoords_d_g, gogeom_geom0_FlatCoords_d, gogeom_geom0_Stride_c_g, gogeom_geom0_Stride_c, gogeom_geom0_SRID_c_g, gogeom_geom0_SRID_c, gogeom_geom0_Layout_d_g, gogeom_geom0_Layout_d, gogeom_geom2_Ends_c_g, gogeom_geom2_Ends_c, impl_plain_e_g, impl_plain_e, impl_plain_f_g, impl_plain_f, gogeom_geom0_FlatCoords_e_g, gogeom_geom0_FlatCoords_e, gogeom_geom0_Stride_d_g, gogeom_geom0_Stride_d, gogeom_geom0_SRID_d_g, gogeom_geom0_SRID_d, gogeom_geom0_Layout_f_g, gogeom_geom0_Layout_f, gogeom_geom0_Ends_b_g, gogeom_geom0_Ends_b, gogeom_geom3_Endss_b_g, gogeom_geom3_Endss_b, impl_plain_h_g, impl_plain_h, impl_floats, impl_floats_g, lim_le rl, impl_ints, impl_ints_g, lim_le hends.1, i0, i1, he, List.length_nil, Nat.zero_mul, lim_le (Nat.zero_le _)]
theorem each_eq (g : Geo) : laws_gEach N N g = laws_gEach_g N (laws_gEach N (N - 1)) g (laws_gEach_l0 N (laws_gEach N (N - 1)) N) := by
  obtain ⟨M, rfl⟩ : ∃ M, N = M + 1 := ⟨N - 1, by omega⟩
  rfl
theorem each (g : Geo) (hk : g.kids = []) (hl : g.flat.length ≤ 4294967296) : ∃ b, laws_gEach N N g = some b ∧ (b = true → ∀ x ∈ g.flat, Q x) := by
  obtain ⟨M, hM⟩ : ∃ M, N = M + 1 := ⟨N - 1, by omega⟩
  rw [each_eq hN hNl]
  unfold laws_gEach_g
  have e1 : ∀ self, laws_gEach_l1 N self N g 0 = some true := by
    intro self
    rw [show laws_gEach_l1 N self N g 0 = laws_gEach_l1 N self (M + 1) g 0 by rw [← hM]]
    simp only [laws_gEach_l1, laws_gEach_g1, Bool.cond_decide, hk, List.length_nil]
    rw [if_neg (by omega)]
  rcases checkLoop0 (xs := g.flat) (L := fun n i => laws_gEach_l0 N (laws_gEach N (N - 1)) n g i) (e := fun o => o = some false) (fin := some true) Q
    (fun n => by
      simp only [laws_gEach_l0, laws_gEach_g0, Bool.cond_decide]
      rw [if_neg (by omega), e1])
    (fun n i hi => by
      simp only [laws_gEach_l0, laws_gEach_g0, Bool.cond_decide]
      rw [if_pos (by omega), nth_get hi, succ_in hi (by omega)]
      obtain ⟨b, hb, hq⟩ := gwhole N g.flat[i]
      simp only [Option.bind_some, hb]
      cases b with
      | false => exact .inl rfl
      | true => exact .inr ⟨rfl, hq rfl⟩) N (by omega) with h2 | ⟨h2, h3⟩
  · exact ⟨_, h2, fun h => by cases h⟩
  · exact ⟨_, h2, fun _ => h3⟩
theorem gInts_same (l : List Int) (hl : l.length ≤ 140737488351232) : laws_gInts N l l = some true := by
  unfold laws_gInts laws_gInts_g
  rw [bne_self_eq_false, cond_false]
  rcases checkLoop0 (xs := l) (L := fun n i => laws_gInts_l0 N n l l i) (e := fun o => False) (fin := some true) (fun _ => True)
    (fun n => by
      simp only [laws_gInts_l0, laws_gInts_g0, Bool.cond_decide]
      rw [if_neg (by omega)])
    (fun n i hi => by
      refine .inr ⟨?_, trivial⟩
      simp only [laws_gInts_l0, laws_gInts_g0, Bool.cond_decide]
      rw [if_pos (by omega), nth_get hi, succ_in hi (by omega)]
      simp only [Option.bind_some, bne_self_eq_false, cond_false]) N (by omega) with h2 | ⟨h2, _⟩
  · exact h2.elim
  · exact h2
theorem gIntss_same (l : List (List Int)) (hl : l.length ≤ 140737488351232) (hin : ∀ x ∈ l, x.length ≤ 140737488351232) : laws_gIntss N l l = some true := by
  unfold laws_gIntss laws_gIntss_g
  rw [bne_self_eq_false, cond_false]
  rcases checkLoop0 (xs := l) (L := fun n i => laws_gIntss_l0 N n l l i) (e := fun o => False) (fin := some true) (fun _ => True)
    (fun n => by
      simp only [laws_gIntss_l0, laws_gIntss_g0, Bool.cond_decide]
      rw [if_neg (by omega)])
    (fun n i hi => by
      refine .inr ⟨?_, trivial⟩
      simp only [laws_gIntss_l0, laws_gIntss_g0, Bool.cond_decide]
      rw [if_pos (by omega), nth_get hi, succ_in hi (by omega)]
      simp only [Option.bind_some, gInts_same hN hNl _ (hin _ (List.getElem_mem hi)), Bool.not_true, cond_false]) N (by omega) with h2 | ⟨h2, _⟩
  · exact h2.elim
  · exact h2
theorem equal_of (g h : Geo) (k1 : g.kind = h.kind) (k2 : g.layout = h.layout) (k3 : g.srid = h.srid) (k4 : g.ends = h.ends) (k5 : g.endss = h.endss) (k6 : g.kids = []) (k7 : h.kids = [])
    (h1 : h.ends.length ≤ 140737488351232) (h2 : h.endss.length ≤ 140737488351232) (h3 : ∀ x ∈ h.endss, x.length ≤ 140737488351232)
    (hl : g.flat.length ≤ 4294967296) (he : g.flat.length = h.flat.length) (hf : ∀ i (a : i < g.flat.length) (b : i < h.flat.length), fne g.flat[i] h.flat[i] = false) :
    laws_gEqual N N g h = some true := by
  obtain ⟨M, hM⟩ : ∃ M, N = M + 1 := ⟨N - 1, by omega⟩
  rw [show laws_gEqual N N = laws_gEqual N (M + 1) by rw [← hM]]
  unfold laws_gEqual laws_gEqual_g
  simp only [k1, k2, k3, k4, k5, k6, k7, bne_self_eq_false, cond_false, he, gInts_same hN hNl _ h1, gIntss_same hN hNl _ h2 h3, Option.bind_some, Bool.not_true, gate_pos hN]
  have e1 : ∀ self, laws_gEqual_l2 N self N g h 0 = some true := by
    intro self
    rw [show laws_gEqual_l2 N self N = laws_gEqual_l2 N self (M + 1) by rw [← hM]]
    simp only [laws_gEqual_l2, laws_gEqual_g2, Bool.cond_decide, k6, List.length_nil]
    rw [if_neg (by omega)]
  rcases checkLoop0 (xs := g.flat) (L := fun n i => laws_gEqual_l1 N (laws_gEqual N M) n g h i) (e := fun o => False) (fin := some true) (fun _ => True)
    (fun n => by
      simp only [laws_gEqual_l1, laws_gEqual_g1, Bool.cond_decide]
      rw [if_neg (by omega), e1])
    (fun n i hi => by
      refine .inr ⟨?_, trivial⟩
      simp only [laws_gEqual_l1, laws_gEqual_g1, Bool.cond_decide]
      rw [if_pos (by omega), nth_get hi, nth_get (xs := h.flat) (by omega), succ_in hi (by omega)]
      simp only [Option.bind_some, hf i hi (by omega), cond_false]) N (by omega) with h2 | ⟨h2, _⟩
  · exact h2.elim
  · exact h2
/-- The numbers that are wanted. -/
def Wt (mul add : List Nat) (s : Nat) (flat : List Nat) (t : Nat) : List Nat := (flat.take t).mapIdx fun k x => i2f (im mul add (k % s) x)
omit hN hNl in
theorem Wt_len {s : Nat} {flat : List Nat} {t : Nat} (h : t ≤ flat.length) : (Wt mul add s flat t).length = t := by
  unfold Wt; rw [List.length_mapIdx, List.length_take]; omega
omit hN hNl in
theorem Wt_succ {s : Nat} {flat : List Nat} {t : Nat} (h : t < flat.length) : Wt mul add s flat (t + 1) = Wt mul add s flat t ++ [i2f (im mul add (t % s) flat[t])] := by
  unfold Wt
  rw [take_snoc h, List.mapIdx_append]
  simp only [List.mapIdx_cons, List.mapIdx_nil, List.length_take, Nat.zero_add, Nat.min_eq_left (Nat.le_of_lt h)]
omit hN hNl in
theorem Wt_elem {s : Nat} {flat : List Nat} {i : Nat} (h : i < flat.length) (h' : i < (Wt mul add s flat flat.length).length) : (Wt mul add s flat flat.length)[i] = i2f (im mul add (i % s) flat[i]) := by
  have : Wt mul add s flat flat.length = flat.mapIdx fun k x => i2f (im mul add (k % s) x) := by unfold Wt; rw [List.take_length]
  simp only [this]
  exact List.getElem_mapIdx
include hm ha in
theorem law_loop {s : Nat} {st : Int} {g : Geo} (hst : st = (s : Int)) (hs : 0 < s) (hq : ∀ x ∈ g.flat, Q x) (hl : g.flat.length ≤ 4294967296) {r : Option Bool} (hend : laws_FnTransform_g1 N st g (mul, add, ()) (fun _ _ _ => none) (fun _ _ => none) (g.flat.length : Int) (Wt mul add s g.flat g.flat.length) = r) :
    ∀ (c i n : Nat), i + c = g.flat.length → c + 1 ≤ n → laws_FnTransform_l1 N n st g (mul, add, ()) (i : Int) (Wt mul add s g.flat i) = r
  | 0, i, n, hi, hn => by
    obtain ⟨n, rfl⟩ : ∃ m, n = m + 1 := ⟨n - 1, by omega⟩
    rw [← hend, show i = g.flat.length by omega]
    simp only [laws_FnTransform_l1, laws_FnTransform_g1, Bool.cond_decide]
    rw [if_neg (by omega), if_neg (by omega)]
  | c + 1, i, n, hi, hn => by
    obtain ⟨n, rfl⟩ : ∃ m, n = m + 1 := ⟨n - 1, by omega⟩
    have hlt : i < g.flat.length := by omega
    have ih := law_loop hst hs hq hl hend c (i + 1) n (by omega) (by omega)
    have hx := hq _ (List.getElem_mem hlt)
    obtain ⟨w1, _, b1⟩ := fm1_wh hm (j := i % s) hx
    obtain ⟨w2, _, b2⟩ := fm2_wh ha (j := i % s) w1 b1
    have tm : Int.tmod (i : Int) st = ((i % s : Nat) : Int) := by rw [hst]; rfl
    have s0 : st ≠ 0 := by omega
    have last : laws_FnTransform_j3 N (laws_FnTransform_l1 N n st g (mul, add, ())) st g (mul, add, ()) (i : Int) (Wt mul add s g.flat i) (im mul add (i % s) g.flat[i]) = r := by
      unfold laws_FnTransform_j3 laws_FnTransform_g3
      rw [gate_pos hN, lim_le (by rw [Wt_len (by omega)]; simp only [List.length_cons, List.length_nil]; omega), succ_in hlt (by omega)]
      simp only [Option.bind_some]
      rw [← Wt_succ hlt]
      exact ih
    have snd : laws_FnTransform_j2 N (laws_FnTransform_l1 N n st g (mul, add, ())) st g (mul, add, ()) (i : Int) (Wt mul add s g.flat i) (im1 mul (i % s) g.flat[i]) = r := by
      unfold laws_FnTransform_j2 laws_FnTransform_g2
      rw [gate_pos hN, if_neg s0, tm, Bool.cond_decide]
      by_cases h : i % s < add.length
      · rw [if_pos (by exact_mod_cast h), if_neg s0, nth_get h]
        obtain ⟨_, e, q1, q2⟩ := (ha _ (List.getElem_mem h)).wh
        simp only [Option.bind_some, e]
        have : im1 mul (i % s) g.flat[i] + tI add[i % s] = im mul add (i % s) g.flat[i] := by unfold im im2; rw [dif_pos h]
        rw [this, wrap_in (by unfold im; omega)]
        exact last
      · rw [if_neg (by show ¬ (((i % s : Nat) : Int) < (add.length : Int)); omega)]
        have : im1 mul (i % s) g.flat[i] = im mul add (i % s) g.flat[i] := by unfold im im2; rw [dif_neg h]
        rw [this]
        exact last
    obtain ⟨_, ex, x1, x2⟩ := hx.wh
    simp only [laws_FnTransform_l1, laws_FnTransform_g1, Bool.cond_decide]
    rw [if_pos (by omega), nth_get hlt]
    simp only [Option.bind_some, ex]
    rw [if_neg s0, tm]
    by_cases h : i % s < mul.length
    · rw [if_pos (by exact_mod_cast h), if_neg s0, nth_get h]
      obtain ⟨_, e, q1, q2⟩ := (hm _ (List.getElem_mem h)).wh
      simp only [Option.bind_some, e]
      have : tI g.flat[i] * tI mul[i % s] = im1 mul (i % s) g.flat[i] := by unfold im1; rw [dif_pos h]
      rw [this, wrap_in (by omega)]
      exact snd
    · rw [if_neg (by show ¬ (((i % s : Nat) : Int) < (mul.length : Int)); omega)]
      have : tI g.flat[i] = im1 mul (i % s) g.flat[i] := by unfold im1; rw [dif_neg h]
      rw [this]
      exact snd
omit hm ha in
theorem law (g : Geo) (m : List Nat × (List Nat × Unit)) (hd : dep g ≤ N) (hw : wfG g) : laws_FnTransform N g m = some true := by
  obtain ⟨mul, add, u⟩ := m
  cases u
  unfold laws_FnTransform laws_FnTransform_g
  simp only [eta, laws_FnTransform_j0, laws_FnTransform_g0, gate_pos hN, Bool.cond_decide]
  obtain ⟨fb, hf, hff⟩ := fits2 hN hNl g hw
  rw [hf]
  simp only [Option.bind_some]
  cases fb with
  | false => rfl
  | true =>
  simp only [Bool.not_true, cond_false, laws_zzFits7, laws_zzFits7_g, Bool.cond_decide]
  by_cases f1 : (mul.length : Int) > 2147483647
  · rw [if_pos f1]; rfl
  rw [if_neg f1]
  by_cases f2 : (add.length : Int) > 2147483647
  · rw [if_pos f2]; rfl
  rw [if_neg f2]
  simp only [Option.bind_some, Bool.not_true, cond_false]
  obtain ⟨gb, hg, hgg⟩ := gGood_one hN hNl g hd hw
  have hp : laws_gPlain N g = some (bif gb then g.kind != 7 else false) := by
    unfold laws_gPlain laws_gPlain_g
    rw [eta, hg]
    cases gb <;> rfl
  rw [hp]
  simp only [Option.bind_some]
  cases gb with
  | false => rfl
  | true =>
  simp only [cond_true]
  cases k7 : (g.kind != 7) with
  | false => rfl
  | true =>
  simp only [Bool.not_true, cond_false]
  have h7 : g.kind ≠ 7 := by simpa using k7
  obtain ⟨gf, l1, l9⟩ := hgg rfl h7
  have hl := hff rfl
  obtain ⟨b1, e1, q1⟩ := each hN hNl g gf.kids (by omega)
  rw [e1]
  simp only [Option.bind_some]
  cases b1 with
  | false => rfl
  | true =>
  simp only [Bool.not_true, cond_false]
  by_cases f3 : (mul.length : Int) > 9
  · rw [if_pos f3]
  rw [if_neg f3]
  by_cases f4 : (add.length : Int) > 9
  · rw [if_pos f4]
  rw [if_neg f4]
  obtain ⟨b2, e2, q2⟩ := each hN hNl (Geo.mk 0 0 0 mul [] [] []) rfl (by show mul.length ≤ _; omega)
  rw [e2]
  simp only [Option.bind_some]
  cases b2 with
  | false => rfl
  | true =>
  simp only [Bool.not_true, cond_false]
  obtain ⟨b3, e3, q3⟩ := each hN hNl (Geo.mk 0 0 0 add [] [] []) rfl (by show add.length ≤ _; omega)
  rw [e3]
  simp only [Option.bind_some]
  cases b3 with
  | false => rfl
  | true =>
  simp only [Bool.not_true, cond_false, stride_spec, Option.bind_some]
  have hm : ∀ x ∈ mul, Q x := q2 rfl
  have ha : ∀ x ∈ add, Q x := q3 rfl
  have hq : ∀ x ∈ g.flat, Q x := q1 rfl
  have h0 := gf.pos
  have hsz := (sz_of hw).1
  have tr := trans_of hN hNl hm ha g hw gf l1 hl.1 hl.2 hq
  have w0 : Wt mul add (strd g.layout).toNat g.flat 0 = [] := by unfold Wt; rw [List.take_zero]; rfl
  rw [← w0, show (0 : Int) = ((0 : Nat) : Int) from rfl]
  refine law_loop hN hNl hm ha (s := (strd g.layout).toNat) (by omega) (by omega) hq (by omega) ?_ g.flat.length 0 N (by omega) (by omega)
  unfold laws_FnTransform_g1
  rw [Bool.cond_decide, if_neg (by omega), eta, tr]
  simp only [Option.bind_some, cond_true, gf.kids]
  suffices h : laws_gEqual N N (Geo.mk g.kind g.layout g.srid (R mul add (strd g.layout).toNat g.flat g.flat.length) g.ends g.endss []) (Geo.mk g.kind g.layout g.srid (Wt mul add (strd g.layout).toNat g.flat g.flat.length) g.ends g.endss []) = some true by
    rw [h]; rfl
  refine equal_of hN hNl _ _ rfl rfl rfl rfl rfl rfl rfl ?_ ?_ ?_ ?_ ?_ ?_
  · show g.ends.length ≤ 140737488351232
    omega
  · exact hsz.endss
  · exact fun l hl => (hsz.each l hl).1
  · show (R mul add (strd g.layout).toNat g.flat g.flat.length).length ≤ _
    rw [R_len]; omega
  · show (R mul add (strd g.layout).toNat g.flat g.flat.length).length = (Wt mul add (strd g.layout).toNat g.flat g.flat.length).length
    rw [R_len, Wt_len (Nat.le_refl _)]
  · intro i h1 h2
    have hi : i < g.flat.length := by
      have h1' : i < (R mul add (strd g.layout).toNat g.flat g.flat.length).length := h1
      rw [R_len] at h1'; exact h1'
    have h1' : i < (R mul add (strd g.layout).toNat g.flat g.flat.length).length := h1
    have h2' : i < (Wt mul add (strd g.layout).toNat g.flat g.flat.length).length := h2
    show fne ((R mul add (strd g.layout).toNat g.flat g.flat.length)[i]'h1') ((Wt mul add (strd g.layout).toNat g.flat g.flat.length)[i]'h2') = false
    rw [R_elem hi, Wt_elem hi, if_pos hi]
    obtain ⟨w1, _, b1⟩ := fm1_wh hm (j := i % (strd g.layout).toNat) (hq _ (List.getElem_mem hi))
    obtain ⟨w2, _, b2⟩ := fm2_wh ha (j := i % (strd g.layout).toNat) w1 b1
    have w3 := i2f_wh (im mul add (i % (strd g.layout).toNat) g.flat[i]) (by unfold im; omega)
    have w2' : Wh (fm mul add (i % (strd g.layout).toNat) g.flat[i]) (im mul add (i % (strd g.layout).toNat) g.flat[i]) := w2
    rw [fne_wh w2' w3]
    simp

end
end Go.Proofs.Ytjabjnkiddldeaa.PvTransform
