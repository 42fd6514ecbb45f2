/- The plain law of FnWriteFloats: numbers are written as eight bytes each, in either order, and read back. -/
import Derived.Test.YtjabjnkiddldeaaDoorPvReadWF
set_option linter.unusedVariables false
set_option linter.unusedSectionVars false
set_option linter.unusedSimpArgs false
namespace Go.Proofs.YtjabjnkiddldeaaDoor.PvWriteF
open Go.Av Go
open Go.Proofs.YtjabjnkiddldeaaDoor.WF
open Go.Proofs.YtjabjnkiddldeaaDoor.PvReadWF
theorem w8_eq (n : Int) : IntKind.u8.wrap n = n % 256 := by simp [IntKind.wrap, IntKind.signed, IntKind.bits]
/-- The k-th digit to the base 256. -/
def dig (x k : Nat) : Int := ((x / 256 ^ k % 256 : Nat) : Int)
theorem dig_byte (x k : Nat) : Byte (dig x k) := by unfold dig Byte; omega
/-- The eight bytes of a number. -/
def enc (big : Bool) (x : Nat) : List Int := (List.range 8).map fun j => dig x (if big then 7 - j else j)
theorem enc_len (big : Bool) (x : Nat) : (enc big x).length = 8 := by simp [enc]
theorem enc_at (big : Bool) (x : Nat) {j : Nat} (h : j < 8) : (enc big x).getD j 0 = dig x (if big then 7 - j else j) := by
  simp [enc, List.getD_eq_getElem?_getD, h]
theorem dig_sh {x k : Nat} {p : Int} (hp : p = ((256 ^ k : Nat) : Int)) : IntKind.u8.wrap (Int.fdiv (x : Int) p) = dig x k := by
  subst hp
  rw [w8_eq]
  unfold dig
  rw [Int.fdiv_eq_ediv_of_nonneg _ (Int.natCast_nonneg _), ← Int.natCast_ediv]
  generalize x / 256 ^ k = y
  omega
theorem dig_0 {x : Nat} : IntKind.u8.wrap (x : Int) = dig x 0 := by
  rw [w8_eq]; unfold dig; rw [Nat.pow_zero, Nat.div_one]; omega
theorem enc_big (x : Nat) : enc true x = [dig x 7, dig x 6, dig x 5, dig x 4, dig x 3, dig x 2, dig x 1, dig x 0] := rfl
theorem enc_little (x : Nat) : enc false x = [dig x 0, dig x 1, dig x 2, dig x 3, dig x 4, dig x 5, dig x 6, dig x 7] := rfl
theorem set8 {buf : List Int} {o : Nat} (h : o + 8 ≤ buf.length) (a0 a1 a2 a3 a4 a5 a6 a7 : Int) :
    ((((((((buf.set (o + 0) a0).set (o + 1) a1).set (o + 2) a2).set (o + 3) a3).set (o + 4) a4).set (o + 5) a5).set (o + 6) a6).set (o + 7) a7) = buf.take o ++ ([a0, a1, a2, a3, a4, a5, a6, a7] ++ buf.drop (o + 8)) := by
  have hd : (buf.drop o).length = buf.length - o := List.length_drop
  obtain ⟨c0, c1, c2, c3, c4, c5, c6, c7, q, hq⟩ : ∃ c0 c1 c2 c3 c4 c5 c6 c7 q, buf.drop o = c0 :: c1 :: c2 :: c3 :: c4 :: c5 :: c6 :: c7 :: q := by
    match buf.drop o, hd with
    | c0 :: c1 :: c2 :: c3 :: c4 :: c5 :: c6 :: c7 :: q, _ => exact ⟨_, _, _, _, _, _, _, _, _, rfl⟩
    | [], hd | [_], hd | [_, _], hd | [_, _, _], hd | [_, _, _, _], hd | [_, _, _, _, _], hd | [_, _, _, _, _, _], hd | [_, _, _, _, _, _, _], hd => simp at hd; omega
  have hb : buf = buf.take o ++ (c0 :: c1 :: c2 :: c3 :: c4 :: c5 :: c6 :: c7 :: q) := by rw [← hq, List.take_append_drop]
  have h8 : buf.drop (o + 8) = q := by rw [← List.drop_drop, hq]; rfl
  have hl : (buf.take o).length = o := by rw [List.length_take]; omega
  rw [h8]
  generalize buf.take o = p at hb hl
  subst hl
  rw [hb]
  simp [List.set_append]
theorem bits64 {N x : Nat} : math_Float64bits N x = some ((x : Nat) : Int) := rfl
/-- One number is written. -/
theorem write_big {N : Nat} {buf : List Int} {o l x : Nat} (h : o + 8 ≤ buf.length) (hl : 8 ≤ l) (hol : o + l ≤ buf.length) :
    wkbcommon_writeFloat N (buf, o, l) x = some ((buf.take o ++ (enc true x ++ buf.drop (o + 8)), o, l), ()) := by
  unfold wkbcommon_writeFloat wkbcommon_writeFloat_g binary_bigEndian_PutUint64 binary_bigEndian_PutUint64_g
  rw [bits64]
  simp only [Option.bind_some]
  have c : ∀ k : Nat, k < 8 → chk (k : Int) l = some k := fun k hk => chk_nat (by omega)
  rw [show chk 7 l = some 7 from c 7 (by omega), show chk 6 l = some 6 from c 6 (by omega), show chk 5 l = some 5 from c 5 (by omega), show chk 4 l = some 4 from c 4 (by omega), show chk 3 l = some 3 from c 3 (by omega), show chk 2 l = some 2 from c 2 (by omega), show chk 1 l = some 1 from c 1 (by omega), show chk 0 l = some 0 from c 0 (by omega)]
  simp only [Option.bind_some]
  rw [List.getElem?_eq_getElem (show o + 7 < buf.length by omega)]
  simp only [Option.bind_some]
  rw [set8 h, s8, s16, s24, s32, s40, s48, s56, dig_sh (k := 7) (by decide), dig_sh (k := 6) (by decide), dig_sh (k := 5) (by decide), dig_sh (k := 4) (by decide), dig_sh (k := 3) (by decide), dig_sh (k := 2) (by decide), dig_sh (k := 1) (by decide), dig_0, ← enc_big]
  have e : (buf.take o ++ (enc true x ++ buf.drop (o + 8))).length = buf.length := by
    rw [List.length_append, List.length_append, enc_len, List.length_take, List.length_drop]; omega
  rw [e, show Nat.ble 1 l = true from Nat.ble_eq_true_of_le (by omega), Nat.beq_refl, Nat.beq_refl, Nat.beq_refl]
  rfl
theorem write_little {N : Nat} {buf : List Int} {o l x : Nat} (h : o + 8 ≤ buf.length) (hl : 8 ≤ l) (hol : o + l ≤ buf.length) :
    wkbcommon_writeFloat_b N (buf, o, l) x = some ((buf.take o ++ (enc false x ++ buf.drop (o + 8)), o, l), ()) := by
  unfold wkbcommon_writeFloat_b wkbcommon_writeFloat_b_g binary_littleEndian_PutUint64 binary_littleEndian_PutUint64_g
  rw [bits64]
  simp only [Option.bind_some]
  have c : ∀ k : Nat, k < 8 → chk (k : Int) l = some k := fun k hk => chk_nat (by omega)
  rw [show chk 7 l = some 7 from c 7 (by omega), show chk 6 l = some 6 from c 6 (by omega), show chk 5 l = some 5 from c 5 (by omega), show chk 4 l = some 4 from c 4 (by omega), show chk 3 l = some 3 from c 3 (by omega), show chk 2 l = some 2 from c 2 (by omega), show chk 1 l = some 1 from c 1 (by omega), show chk 0 l = some 0 from c 0 (by omega)]
  simp only [Option.bind_some]
  rw [List.getElem?_eq_getElem (show o + 7 < buf.length by omega)]
  simp only [Option.bind_some]
  rw [set8 h, s8, s16, s24, s32, s40, s48, s56, dig_0, dig_sh (k := 1) (by decide), dig_sh (k := 2) (by decide), dig_sh (k := 3) (by decide), dig_sh (k := 4) (by decide), dig_sh (k := 5) (by decide), dig_sh (k := 6) (by decide), dig_sh (k := 7) (by decide), ← enc_little]
  have e : (buf.take o ++ (enc false x ++ buf.drop (o + 8))).length = buf.length := by
    rw [List.length_append, List.length_append, enc_len, List.length_take, List.length_drop]; omega
  rw [e, show Nat.ble 1 l = true from Nat.ble_eq_true_of_le (by omega), Nat.beq_refl, Nat.beq_refl, Nat.beq_refl]
  rfl
/-- All of them. -/
def all (big : Bool) (xs : List Nat) : List Int := xs.flatMap (enc big)
theorem all_len (big : Bool) : ∀ xs : List Nat, (all big xs).length = 8 * xs.length
  | [] => rfl
  | x :: xs => by
    have := all_len big xs
    unfold all at this ⊢
    rw [List.flatMap_cons, List.length_append, enc_len, this, List.length_cons]; omega
theorem all_app (big : Bool) (xs ys : List Nat) : all big (xs ++ ys) = all big xs ++ all big ys := by simp [all]
theorem all_byte (big : Bool) (xs : List Nat) : ∀ b ∈ all big xs, Byte b := by
  intro b hb
  unfold all at hb
  obtain ⟨x, _, hb⟩ := List.mem_flatMap.1 hb
  unfold enc at hb
  obtain ⟨j, _, rfl⟩ := List.mem_map.1 hb
  exact dig_byte _ _
/-- A buffer in which the first numbers stand. -/
def half (big : Bool) (xs : List Nat) (i : Nat) : List Int := all big (xs.take i) ++ List.replicate (8 * (xs.length - i)) 0
theorem half_len (big : Bool) (xs : List Nat) {i : Nat} (h : i ≤ xs.length) : (half big xs i).length = 8 * xs.length := by
  unfold half
  rw [List.length_append, all_len, List.length_take, List.length_replicate]; omega
theorem half_step (big : Bool) (xs : List Nat) {i : Nat} (h : i < xs.length) : (half big xs i).take (8 * i) ++ (enc big xs[i] ++ (half big xs i).drop (8 * i + 8)) = half big xs (i + 1) := by
  have hl : (all big (xs.take i)).length = 8 * i := by rw [all_len, List.length_take]; omega
  unfold half
  rw [List.take_left' hl, List.drop_append, hl, List.drop_eq_nil_of_le (by omega), List.nil_append, List.drop_replicate, List.take_add_one, List.getElem?_eq_getElem h]
  rw [all_app, List.append_assoc]
  congr 1
  simp only [Option.toList_some, all, List.flatMap_cons, List.flatMap_nil, List.append_nil]
  congr 2
  omega
section
variable {N : Nat} (hN : 0 < N) (hNl : 9223372036854775808 ≤ N)
include hN hNl
omit hN hNl in
theorem w00 : IntKind.i64.wrap (0 - 0) = 0 := by decide
omit hN hNl in
theorem chk00 : chk2 0 0 0 = some (0, 0) := chk2_int (by omega)
omit hN hNl in
theorem big_room {n : Nat} (h : n ≤ 2400) : ∃ M : Int, IntKind.i64.wrap (IntKind.i64.wrap (9223372036854775807 - 0) - (n : Int)) = M ∧ 0 ≤ M := by
  refine ⟨9223372036854775807 - (n : Int), ?_, by omega⟩
  rw [wrap_in (n := 9223372036854775807 - 0) (by omega), wrap_in (by omega)]; omega
/-- The buffer grows for bytes. -/
theorem buf_write {v : List Int} (hv : v.length ≤ 2400) : ∃ r, (v = [] ∧ bytes_Buffer_Write N ((), 0, 0, ()) v = some (Sum.inl (0, (), ((), 0, r, ()), v, ()))) ∨ (v ≠ [] ∧ bytes_Buffer_Write N ((), 0, 0, ()) v = some (Sum.inr (Sum.inl (((v.length : Nat) : Int), (), (v, 0, r, ()), v, ())))) ∨
    (v ≠ [] ∧ bytes_Buffer_Write N ((), 0, 0, ()) v = some (Sum.inr (Sum.inr (((v.length : Nat) : Int), (), ((v, 0, v.length), 0, r, ()), v, ())))) := by
  cases v with
  | nil =>
    refine ⟨0, .inl ⟨rfl, ?_⟩⟩
    unfold bytes_Buffer_Write bytes_Buffer_Write_g bytes_Buffer_tryGrowByReslice bytes_Buffer_tryGrowByReslice_g bytes_Buffer_Write_j0 bytes_Buffer_Write_g0
    have e1 : IntKind.i64.wrap (0 + 0) = 0 := by decide
    simp only [gate_pos hN, List.length_nil, Int.natCast_zero, w00, show decide ((0 : Int) ≤ 0) = true from rfl, cond_true, e1, chk00, Option.bind_some, Bool.not_true, cond_false]
  | cons x0 r0 =>
    generalize hvv : x0 :: r0 = v at hv ⊢
    have hne : v ≠ [] := by rw [← hvv]; simp
    have hpos : 0 < v.length := List.length_pos_iff.2 hne
    have t0 : ∀ a b : Int, bytes_Buffer_tryGrowByReslice N ((), a, b, ()) (v.length : Int) = some (0, false, ((), a, b, ()), ()) := by
      intro a b
      unfold bytes_Buffer_tryGrowByReslice bytes_Buffer_tryGrowByReslice_g
      rw [w00, show decide ((v.length : Int) ≤ 0) = false by simp only [decide_eq_false_iff_not]; omega]
      rfl
    have hsplit : ∀ z : List Int, z.length = v.length → z.take 0 ++ (v.take v.length ++ z.drop (0 + min v.length v.length)) = v := by
      intro z hz
      rw [List.take_zero, List.nil_append, List.take_length, Nat.zero_add, Nat.min_self, List.drop_eq_nil_of_le (by omega), List.append_nil]
    have hchk : chk2 0 (v.length : Int) v.length = some (0, v.length) := by rw [chk2_int (by omega)]; simp
    by_cases h64 : v.length ≤ 64
    · have hg : bytes_Buffer_grow N ((), 0, 0, ()) (v.length : Int) = some (Sum.inr (Sum.inl (0, (List.replicate v.length 0, 0, 0, ()), ()))) := by
        obtain ⟨M, hM, hM0⟩ := big_room (n := v.length) (by omega)
        unfold bytes_Buffer_grow bytes_Buffer_grow_g bytes_Buffer_grow_j0 bytes_Buffer_grow_g0
        rw [hM]
        unfold bytes_Buffer_Len bytes_Buffer_Len_g
        simp only [gate_pos hN, Option.bind_some, List.length_nil, Int.natCast_zero, w00, t0, cond_false, BEq.rfl, cond_true, bne_self_eq_false]
        rw [show decide ((v.length : Int) ≤ 64) = true by simp only [decide_eq_true_eq]; omega, cond_true, mkn_ok (by omega) (by omega) (by omega) (by omega)]
        simp
      refine ⟨0, .inr (.inl ⟨hne, ?_⟩)⟩
      unfold bytes_Buffer_Write bytes_Buffer_Write_g
      simp only [t0, Option.bind_some, Bool.not_false, cond_true, hg, Sum.elim_inr, Sum.elim_inl, gate_pos hN, List.length_replicate, hchk, Nat.sub_zero, Nat.min_self]
      rw [show (0 : Nat) + v.length = 0 + min v.length v.length by simp, hsplit _ (by simp)]
    · have hgs : bytes_growSlice N (v.length : Int) = some ((List.replicate v.length 0, 0, 0), ()) := by
        unfold bytes_growSlice bytes_growSlice_g bytes_growSlice_j0 bytes_growSlice_g0
        simp only [gate_pos hN]
        have e1 : IntKind.i64.wrap (0 + (v.length : Int)) = (v.length : Int) := by rw [wrap_in (by omega)]; omega
        have e2 : IntKind.i64.wrap (2 * 0) = 0 := by decide
        rw [e1, e2, show decide ((v.length : Int) < 0) = false by simp only [decide_eq_false_iff_not]; omega, cond_false, show decide (1 ≤ (v.length : Int)) = true by simp only [decide_eq_true_eq]; omega, cond_true]
        rw [show (v.length : Int).toNat = v.length by omega, lim_le (by omega)]
        simp only [Option.bind_some, List.length_nil, Nat.zero_min, Int.natCast_zero, List.take_nil, List.nil_append, List.drop_zero]
        rw [chk2_int (by simp)]
        rfl
      have hg : bytes_Buffer_grow N ((), 0, 0, ()) (v.length : Int) = some (Sum.inr (Sum.inr (0, ((List.replicate v.length 0, 0, v.length), 0, 0, ()), ()))) := by
        obtain ⟨M, hM, hM0⟩ := big_room (n := v.length) (by omega)
        unfold bytes_Buffer_grow bytes_Buffer_grow_g bytes_Buffer_grow_j0 bytes_Buffer_grow_g0
        rw [hM]
        have e1 : IntKind.i64.wrap (0 + (v.length : Int)) = (v.length : Int) := by rw [wrap_in (by omega)]; omega
        have e3 : IntKind.i64.wrap (IntKind.i64.wrap (Int.tdiv 0 2) - 0) = 0 := by decide
        unfold bytes_Buffer_Len bytes_Buffer_Len_g
        simp only [gate_pos hN, Option.bind_some, List.length_nil, Int.natCast_zero, w00, t0, cond_false, BEq.rfl, cond_true, bne_self_eq_false]
        rw [show decide ((v.length : Int) ≤ 64) = false by simp only [decide_eq_false_iff_not]; omega, cond_false, e3, show decide ((v.length : Int) ≤ 0) = false by simp only [decide_eq_false_iff_not]; omega, cond_false, show decide ((0 : Int) > M) = false by simp only [decide_eq_false_iff_not]; omega, cond_false, chk00]
        simp only [Option.bind_some, e1, hgs, Nat.beq_refl, cond_true, List.length_replicate, hchk, Nat.sub_zero, Nat.add_zero]
      refine ⟨0, .inr (.inr ⟨hne, ?_⟩)⟩
      unfold bytes_Buffer_Write bytes_Buffer_Write_g
      simp only [t0, Option.bind_some, Bool.not_false, cond_true, hg, Sum.elim_inr, Sum.elim_inl, gate_pos hN, List.length_replicate, Nat.beq_refl, hchk, Nat.sub_zero, Nat.min_self, Nat.add_zero]
      rw [show (0 : Nat) + v.length = 0 + min v.length v.length by simp, hsplit _ (by simp)]
/-- Numbers are written. -/
theorem arr_big {xs : List Nat} (hx : xs.length ≤ 300) : ∃ r, (xs = [] ∧ wkbcommon_WriteFloatArray N ((), 0, 0, ()) xs = some (Sum.inl ((), ((), 0, r, ()), ()))) ∨ wkbcommon_WriteFloatArray N ((), 0, 0, ()) xs = some (Sum.inr ((), (all true xs, 0, r, ()), ())) := by
  unfold wkbcommon_WriteFloatArray wkbcommon_WriteFloatArray_g
  have hw : ∀ i : Nat, i ≤ 300 → IntKind.i64.wrap (8 * (i : Int)) = ((8 * i : Nat) : Int) := fun i hi => by rw [wrap_in (by omega)]; omega
  rw [hw _ hx, mkn_ok (by omega) (by omega) (by omega) (by omega)]
  simp only [Option.bind_some]
  rw [show ((8 * xs.length : Nat) : Int).toNat = 8 * xs.length by omega]
  rcases stateLoop0 (xs := xs) (L := fun n i st => wkbcommon_WriteFloatArray_l0 N n xs ((), 0, 0, ()) i st) (e := fun _ => False)
    (fin := fun st => wkbcommon_WriteFloatArray_l0 N 1 xs ((), 0, 0, ()) (xs.length : Int) st) (fun i st => st = half true xs i)
    (fun n st hp => by
      simp only [wkbcommon_WriteFloatArray_l0, wkbcommon_WriteFloatArray_g0, Bool.cond_decide]
      rw [if_neg (by omega), if_neg (by omega)])
    (fun n i st hi hp => by
      right
      subst hp
      have hl := half_len true xs (i := i) (by omega)
      refine ⟨half true xs (i + 1), ?_, rfl⟩
      simp only [wkbcommon_WriteFloatArray_l0, wkbcommon_WriteFloatArray_g0, Bool.cond_decide]
      rw [if_pos (by omega), nth_get hi, hw i (by omega), chk2_int (by omega)]
      simp only [Option.bind_some]
      rw [show ((8 * i : Nat) : Int).toNat = 8 * i by omega, show (((half true xs i).length : Nat) : Int).toNat = (half true xs i).length by omega,
        write_big (by omega) (by omega) (by omega)]
      simp only [Option.bind_some]
      rw [half_step true xs hi, succ_in hi (by omega)]
      have e := half_len true xs (i := i + 1) (by omega)
      rw [show (half true xs (i + 1)).length = (half true xs i).length by omega, show Nat.ble 1 ((half true xs i).length - 8 * i) = true from Nat.ble_eq_true_of_le (by omega), Nat.beq_refl, Nat.beq_refl, Nat.beq_refl]
      rfl) N (List.replicate (8 * xs.length) 0) (by omega) (by simp [half, all]) with h | ⟨st, h, hp⟩
  · exact h.elim
  · rw [h]
    subst hp
    have hfull : half true xs xs.length = all true xs := by simp [half]
    rw [hfull]
    have hal := all_len true xs
    simp only [wkbcommon_WriteFloatArray_l0, wkbcommon_WriteFloatArray_g0, Bool.cond_decide]
    rw [if_neg (by omega)]
    obtain ⟨r, h1 | h1 | h1⟩ := buf_write hN hNl (v := all true xs) (by omega)
    · rw [h1.2]
      refine ⟨r, .inl ⟨?_, by simp only [Option.bind_some, Sum.elim_inl]⟩⟩
      have := congrArg List.length h1.1
      rw [hal, List.length_nil] at this
      exact List.eq_nil_of_length_eq_zero (by omega)
    · rw [h1.2]
      exact ⟨r, .inr (by simp only [Option.bind_some, Sum.elim_inl, Sum.elim_inr])⟩
    · rw [h1.2]
      exact ⟨r, .inr (by simp only [Option.bind_some, Sum.elim_inl, Sum.elim_inr, List.drop_zero, List.take_length])⟩
theorem arr_little {xs : List Nat} (hx : xs.length ≤ 300) : ∃ r, (xs = [] ∧ wkbcommon_WriteFloatArray_b N ((), 0, 0, ()) xs = some (Sum.inl ((), ((), 0, r, ()), ()))) ∨ wkbcommon_WriteFloatArray_b N ((), 0, 0, ()) xs = some (Sum.inr ((), (all false xs, 0, r, ()), ())) := by
  unfold wkbcommon_WriteFloatArray_b wkbcommon_WriteFloatArray_b_g
  have hw : ∀ i : Nat, i ≤ 300 → IntKind.i64.wrap (8 * (i : Int)) = ((8 * i : Nat) : Int) := fun i hi => by rw [wrap_in (by omega)]; omega
  rw [hw _ hx, mkn_ok (by omega) (by omega) (by omega) (by omega)]
  simp only [Option.bind_some]
  rw [show ((8 * xs.length : Nat) : Int).toNat = 8 * xs.length by omega]
  rcases stateLoop0 (xs := xs) (L := fun n i st => wkbcommon_WriteFloatArray_b_l0 N n xs ((), 0, 0, ()) i st) (e := fun _ => False)
    (fin := fun st => wkbcommon_WriteFloatArray_b_l0 N 1 xs ((), 0, 0, ()) (xs.length : Int) st) (fun i st => st = half false xs i)
    (fun n st hp => by
      simp only [wkbcommon_WriteFloatArray_b_l0, wkbcommon_WriteFloatArray_b_g0, Bool.cond_decide]
      rw [if_neg (by omega), if_neg (by omega)])
    (fun n i st hi hp => by
      right
      subst hp
      have hl := half_len false xs (i := i) (by omega)
      refine ⟨half false xs (i + 1), ?_, rfl⟩
      simp only [wkbcommon_WriteFloatArray_b_l0, wkbcommon_WriteFloatArray_b_g0, Bool.cond_decide]
      rw [if_pos (by omega), nth_get hi, hw i (by omega), chk2_int (by omega)]
      simp only [Option.bind_some]
      rw [show ((8 * i : Nat) : Int).toNat = 8 * i by omega, show (((half false xs i).length : Nat) : Int).toNat = (half false xs i).length by omega,
        write_little (by omega) (by omega) (by omega)]
      simp only [Option.bind_some]
      rw [half_step false xs hi, succ_in hi (by omega)]
      have e := half_len false xs (i := i + 1) (by omega)
      rw [show (half false xs (i + 1)).length = (half false xs i).length by omega, show Nat.ble 1 ((half false xs i).length - 8 * i) = true from Nat.ble_eq_true_of_le (by omega), Nat.beq_refl, Nat.beq_refl, Nat.beq_refl]
      rfl) N (List.replicate (8 * xs.length) 0) (by omega) (by simp [half, all]) with h | ⟨st, h, hp⟩
  · exact h.elim
  · rw [h]
    subst hp
    have hfull : half false xs xs.length = all false xs := by simp [half]
    rw [hfull]
    have hal := all_len false xs
    simp only [wkbcommon_WriteFloatArray_b_l0, wkbcommon_WriteFloatArray_b_g0, Bool.cond_decide]
    rw [if_neg (by omega)]
    obtain ⟨r, h1 | h1 | h1⟩ := buf_write hN hNl (v := all false xs) (by omega)
    · rw [h1.2]
      refine ⟨r, .inl ⟨?_, by simp only [Option.bind_some, Sum.elim_inl]⟩⟩
      have := congrArg List.length h1.1
      rw [hal, List.length_nil] at this
      exact List.eq_nil_of_length_eq_zero (by omega)
    · rw [h1.2]
      exact ⟨r, .inr (by simp only [Option.bind_some, Sum.elim_inl, Sum.elim_inr])⟩
    · rw [h1.2]
      exact ⟨r, .inr (by simp only [Option.bind_some, Sum.elim_inl, Sum.elim_inr, List.drop_zero, List.take_length])⟩
theorem impl_write {xs : List Nat} (hx : xs.length ≤ 300) (big : Bool) : impl_WriteFloats N xs big = some (all big xs, true) := by
  have fin : ∀ (b : Bool) (v : List Int) (r : Int), v.length ≤ 2400 → impl_WriteFloats_j1 N v 0 r = some (v, true) := by
    intro b v r hv
    unfold impl_WriteFloats_j1 impl_WriteFloats_g1 bytes_Buffer_Bytes_c bytes_Buffer_Bytes_c_g
    rw [gate_pos hN, show chk2 (v, (0 : Int), r, ()).2.1 ((v, (0 : Int), r, ()).1.length : Int) (v, (0 : Int), r, ()).1.length = _ from chk2_int (l := 0) (h := (v.length : Int)) (n := v.length) (by omega)]
    simp only [Option.bind_some]
    rw [show (0 : Int).toNat = 0 from rfl, show ((v.length : Nat) : Int).toNat = v.length by omega, List.drop_zero, Nat.sub_zero, List.take_length]
  have nil : ∀ r : Int, impl_WriteFloats_j0 N 0 r = some ([], true) := by
    intro r
    unfold impl_WriteFloats_j0 impl_WriteFloats_g0 bytes_Buffer_Bytes_b bytes_Buffer_Bytes_b_g
    rw [gate_pos hN, List.length_nil, Int.natCast_zero, chk00]
    rfl
  have hal : ∀ b, (all b xs).length ≤ 2400 := fun b => by rw [all_len]; omega
  unfold impl_WriteFloats impl_WriteFloats_g wkbcommon_DoorOrder wkbcommon_DoorOrder_g
  cases big with
  | true =>
    simp only [cond_true, Option.bind_some, Sum.elim_inl]
    obtain ⟨r, ⟨rfl, h⟩ | h⟩ := arr_big hN hNl hx
    · rw [h]; simp only [Option.bind_some, Sum.elim_inl]; exact nil r
    · rw [h]; simp only [Option.bind_some, Sum.elim_inr]; exact fin true _ r (hal _)
  | false =>
    simp only [cond_false, Option.bind_some, Sum.elim_inr]
    obtain ⟨r, ⟨rfl, h⟩ | h⟩ := arr_little hN hNl hx
    · rw [h]; simp only [Option.bind_some, Sum.elim_inl]; exact nil r
    · rw [h]; simp only [Option.bind_some, Sum.elim_inr]; exact fin false _ r (hal _)
omit hN hNl in
/-- Eight bytes are the number. -/
theorem value (big : Bool) {x : Nat} (hx : x < 2 ^ 64) : vf big (fun k => (enc big x).getD k 0) = (x : Int) := by
  have e : ∀ k, k < 8 → (fun k => (enc big x).getD (if big then k else 7 - k) 0) k = dig x (7 - k) := by
    intro k hk
    cases big with
    | true => simp only [if_true]; rw [enc_at _ _ hk]; rfl
    | false => simp only [Bool.false_eq_true, if_false]; rw [enc_at _ _ (by omega)]; rfl
  unfold vf
  have hp : pre (fun k => (enc big x).getD (if big then k else 7 - k) 0) 8 = (((((((0 * 256 + dig x 7) * 256 + dig x 6) * 256 + dig x 5) * 256 + dig x 4) * 256 + dig x 3) * 256 + dig x 2) * 256 + dig x 1) * 256 + dig x 0 := by
    have e0 := e 0 (by omega); have e1 := e 1 (by omega); have e2 := e 2 (by omega); have e3 := e 3 (by omega)
    have e4 := e 4 (by omega); have e5 := e 5 (by omega); have e6 := e 6 (by omega); have e7 := e 7 (by omega)
    simp only [pre]
    simp only at e0 e1 e2 e3 e4 e5 e6 e7
    rw [e0, e1, e2, e3, e4, e5, e6, e7]
  rw [hp]
  unfold dig
  simp only [show (256 : Nat) ^ 7 = 72057594037927936 from rfl, show (256 : Nat) ^ 6 = 281474976710656 from rfl, show (256 : Nat) ^ 5 = 1099511627776 from rfl, show (256 : Nat) ^ 4 = 4294967296 from rfl, show (256 : Nat) ^ 3 = 16777216 from rfl, show (256 : Nat) ^ 2 = 65536 from rfl, show (256 : Nat) ^ 1 = 256 from rfl, show (256 : Nat) ^ 0 = 1 from rfl]
  omega
omit hN hNl in
theorem all_at (big : Bool) : ∀ (xs : List Nat) (i k : Nat) (h : i < xs.length), k < 8 → (all big xs).getD (8 * i + k) 0 = (enc big xs[i]).getD k 0
  | [], i, k, h, _ => by simp at h
  | x :: xs, 0, k, h, hk => by
    unfold all
    rw [List.flatMap_cons, List.getD_eq_getElem?_getD, List.getElem?_append_left (by rw [enc_len]; omega), ← List.getD_eq_getElem?_getD]
    simp
  | x :: xs, i + 1, k, h, hk => by
    have := all_at big xs i k (by simpa using h) hk
    unfold all at this ⊢
    rw [List.flatMap_cons, List.getD_eq_getElem?_getD, List.getElem?_append_right (by rw [enc_len]; omega), enc_len, show 8 * (i + 1) + k - 8 = 8 * i + k by omega, ← List.getD_eq_getElem?_getD, this]
    simp
omit hN hNl in
theorem el_all (big : Bool) {xs : List Nat} (hx : ∀ x ∈ xs, x < 2 ^ 64) {i : Nat} (h : i < xs.length) : el big (all big xs) i = xs[i] := by
  unfold el
  have e : vf big (fun k => (all big xs).getD (8 * i + k) 0) = vf big (fun k => (enc big xs[i]).getD k 0) := by
    have q : ∀ k, k < 8 → (all big xs).getD (8 * i + k) 0 = (enc big xs[i]).getD k 0 := fun k hk => all_at big xs i k h hk
    unfold vf
    cases big with
    | true => simp only [pre, if_true, q 0 (by omega), q 1 (by omega), q 2 (by omega), q 3 (by omega), q 4 (by omega), q 5 (by omega), q 6 (by omega), q 7 (by omega)]
    | false => simp only [pre, Bool.false_eq_true, if_false, q (7 - 0) (by omega), q (7 - 1) (by omega), q (7 - 2) (by omega), q (7 - 3) (by omega), q (7 - 4) (by omega), q (7 - 5) (by omega), q (7 - 6) (by omega), q (7 - 7) (by omega)]
  rw [e, value big (hx _ (List.getElem_mem h))]
  exact Int.toNat_natCast _
omit hN hNl in
theorem back (big : Bool) {xs : List Nat} (hx : ∀ x ∈ xs, x < 2 ^ 64) : (List.range xs.length).map (el big (all big xs)) = xs := by
  refine List.ext_getElem (by simp) fun i h1 h2 => ?_
  rw [List.getElem_map, List.getElem_range]
  exact el_all big hx h2
/-! ### as the statement writes them -/
omit hN hNl in
theorem sh_eq {j : Nat} (h : j < 8) : (2 : Int) ^ (min (((8 * j : Nat) : Int)).toNat (IntKind.bits .u64)) = ((256 ^ j : Nat) : Int) := by
  have : j = 0 ∨ j = 1 ∨ j = 2 ∨ j = 3 ∨ j = 4 ∨ j = 5 ∨ j = 6 ∨ j = 7 := by omega
  rcases this with rfl | rfl | rfl | rfl | rfl | rfl | rfl | rfl <;> decide +kernel
theorem out_loop {big : Bool} {x : Nat} {b b0 : List Int} {a1 a2 a3 : Bool} (hb : b.length ≤ 4000) : ∀ (c i n : Nat), i + c = 8 → c + 1 ≤ n →
    spec_wkbOut_uint_l0 N n (x : Int) 8 (b0, big, a1, a2, a3, ()) (i : Int) (b ++ (enc big x).take i) = some ((b ++ enc big x, big, a1, a2, a3, ()), ())
  | 0, i, n, hi, hn => by
    obtain ⟨n, rfl⟩ : ∃ m, n = m + 1 := ⟨n - 1, by omega⟩
    simp only [spec_wkbOut_uint_l0, spec_wkbOut_uint_g0, Bool.cond_decide]
    rw [if_neg (by omega), List.take_of_length_le (by rw [enc_len]; omega)]
  | c + 1, i, n, hi, hn => by
    obtain ⟨n, rfl⟩ : ∃ m, n = m + 1 := ⟨n - 1, by omega⟩
    have ih := out_loop (big := big) (x := x) (b0 := b0) (a1 := a1) (a2 := a2) (a3 := a3) hb c (i + 1) n (by omega) (by omega)
    have hlen : (b ++ (enc big x).take i).length = b.length + i := by rw [List.length_append, List.length_take, enc_len]; omega
    have key : spec_wkbOut_uint_j1 N (spec_wkbOut_uint_l0 N n (x : Int) 8 (b0, big, a1, a2, a3, ())) (x : Int) 8 (b0, big, a1, a2, a3, ()) (i : Int) (b ++ (enc big x).take i) (((if big then 7 - i else i : Nat)) : Int) = some ((b ++ enc big x, big, a1, a2, a3, ()), ()) := by
      have hj : (if big then 7 - i else i) < 8 := by split <;> omega
      generalize hjj : (if big then 7 - i else i) = j at hj
      unfold spec_wkbOut_uint_j1 spec_wkbOut_uint_g1
      have e8 : IntKind.i64.wrap (8 * (j : Int)) = ((8 * j : Nat) : Int) := by rw [wrap_in (by omega)]; omega
      rw [gate_pos hN, e8, if_neg (by omega), lim_le (by rw [hlen, List.length_cons, List.length_nil]; omega)]
      simp only [Option.bind_some]
      rw [sh_eq hj, dig_sh rfl, wrap_in (n := (i : Int) + 1) (by omega), show (i : Int) + 1 = ((i + 1 : Nat) : Int) by omega, List.append_assoc]
      have e : (enc big x).take i ++ [dig x j] = (enc big x).take (i + 1) := by
        rw [List.take_add_one]
        congr 1
        have := enc_at big x (j := i) (by omega)
        rw [List.getD_eq_getElem?_getD, List.getElem?_eq_getElem (by rw [enc_len]; omega)] at this
        rw [List.getElem?_eq_getElem (by rw [enc_len]; omega)]
        simp only [Option.getD_some] at this
        rw [this, hjj]; rfl
      rw [e]
      exact ih
    simp only [spec_wkbOut_uint_l0, spec_wkbOut_uint_g0, Bool.cond_decide]
    rw [if_pos (by omega)]
    cases big with
    | true =>
      simp only [cond_true]
      have : IntKind.i64.wrap (IntKind.i64.wrap (8 - 1) - (i : Int)) = ((7 - i : Nat) : Int) := by
        rw [wrap_in (n := (8 : Int) - 1) (by omega), wrap_in (by omega)]; omega
      rw [this]
      exact key
    | false =>
      simp only [cond_false]
      exact key
theorem uint_out {big : Bool} {x : Nat} {b : List Int} {a1 a2 a3 : Bool} (hb : b.length ≤ 4000) : spec_wkbOut_uint N (b, big, a1, a2, a3, ()) (x : Int) 8 = some ((b ++ enc big x, big, a1, a2, a3, ()), ()) := by
  unfold spec_wkbOut_uint spec_wkbOut_uint_g
  have := out_loop hN hNl (big := big) (x := x) (b := b) (b0 := b) (a1 := a1) (a2 := a2) (a3 := a3) hb 8 0 N rfl (by omega)
  rw [List.take_zero, List.append_nil] at this
  exact this
theorem bytes_of {xs : List Nat} (hx : xs.length ≤ 300) (big : Bool) : spec_BytesOf N xs big = some (all big xs, ()) := by
  unfold spec_BytesOf spec_BytesOf_g spec_wkbOut_nums spec_wkbOut_nums_g
  simp only
  rcases stateLoop0 (xs := xs) (L := fun n i st => spec_wkbOut_nums_l0 N n xs i st big false false false) (e := fun _ => False)
    (fin := fun st => some ((st, big, false, false, false, ()), ())) (fun i st => st = all big (xs.take i))
    (fun n st hp => by
      simp only [spec_wkbOut_nums_l0, spec_wkbOut_nums_g0, Bool.cond_decide]
      rw [if_neg (by omega)])
    (fun n i st hi hp => by
      right
      subst hp
      have hl : (all big (xs.take i)).length ≤ 4000 := by rw [all_len, List.length_take]; omega
      refine ⟨all big (xs.take (i + 1)), ?_, rfl⟩
      simp only [spec_wkbOut_nums_l0, spec_wkbOut_nums_g0, Bool.cond_decide]
      rw [if_pos (by omega), nth_get hi]
      simp only [Option.bind_some]
      rw [bits64]
      simp only [Option.bind_some]
      rw [uint_out hN hNl hl]
      simp only [Option.bind_some]
      rw [succ_in hi (by omega), List.take_add_one, List.getElem?_eq_getElem hi, all_app]
      simp [all]) N [] (by omega) (by simp [all]) with h | ⟨st, h, hp⟩
  · exact h.elim
  · rw [h]
    subst hp
    simp only [Option.bind_some, List.take_length]
theorem law (xs : List Nat) (big : Bool) (hx : ∀ x ∈ xs, x < 2 ^ 64) : laws_FnWriteFloats N xs big = some true := by
  unfold laws_FnWriteFloats laws_FnWriteFloats_g
  cases h1 : decide ((xs.length : Int) > 2147483647) with
  | true => rfl
  | false =>
  cases h2 : decide ((xs.length : Int) > 300) with
  | true => rfl
  | false =>
    simp only [decide_eq_false_iff_not] at h2
    have hl : xs.length ≤ 300 := by omega
    have hal := all_len big xs
    simp only [cond_false]
    rw [impl_write hN hNl hl big]
    simp only [Option.bind_some]
    rw [ok_impl hN hNl (all_byte big xs) hl (by omega) (by omega)]
    simp only [Option.bind_some]
    rw [el_take, back big hx, hal, Nat.sub_self, same hN hNl xs (by omega), bytes_of hN hNl hl big]
    simp only [Option.bind_some, cond_true, Int.natCast_zero, BEq.rfl, laws_ySame, laws_ySame_g]
end
end Go.Proofs.YtjabjnkiddldeaaDoor.PvWriteF
