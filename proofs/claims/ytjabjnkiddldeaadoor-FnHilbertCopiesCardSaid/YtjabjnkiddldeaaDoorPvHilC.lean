/- The law of HilbertThere: the place at any position of a Hilbert curve has that position. -/
import Derived.Test.YtjabjnkiddldeaaDoorHC
import Derived.Test.YtjabjnkiddldeaaDoorPvHilW
import Derived.Test.YtjabjnkiddldeaaDoorPv3
set_option linter.unusedVariables false
set_option linter.unusedSectionVars false
set_option linter.unusedSimpArgs false
namespace Go.Proofs.YtjabjnkiddldeaaDoor.PvHilC
open Go.Av Go Go.Av.Hil
open Go.Proofs.YtjabjnkiddldeaaDoor.HC
def L2 (f : Nat → Nat) : List Int := [(f 0 : Int), (f 1 : Int)]
def L3 (f : Nat → Nat) : List Int := [(f 0 : Int), (f 1 : Int), (f 2 : Int)]
def L4 (f : Nat → Nat) : List Int := [(f 0 : Int), (f 1 : Int), (f 2 : Int), (f 3 : Int)]
def T2 : Nat → List O
  | 0 => [.sw 0 1]
  | 3 => [.fl 0 1]
  | _ => []
def T3 : Nat → List O
  | 0 => [.sw 1 2, .sw 0 2]
  | 1 | 2 => [.sw 0 2, .sw 1 2]
  | 3 | 4 => [.iv 0 1]
  | 5 | 6 => [.fl 0 2, .fl 1 2]
  | 7 => [.fl 1 2, .fl 0 2]
  | _ => []
def T4 : Nat → List O
  | 0 => [.sw 1 3, .sw 0 3]
  | 1 | 2 => [.sw 0 3, .sw 1 3]
  | 3 | 4 => [.fl 0 1, .sw 2 3]
  | 5 | 6 => [.fl 1 2, .sw 2 3]
  | 7 | 8 => [.iv 0 2]
  | 9 | 10 => [.fl 1 2, .fl 2 3]
  | 11 | 12 => [.fl 0 1, .fl 2 3]
  | 13 | 14 => [.fl 0 3, .fl 1 3]
  | 15 => [.fl 1 3, .fl 0 3]
  | _ => []
variable {N : Nat} (hN : 0 < N)
theorem chkl {i : Int} {n : Nat} (j : Nat) (h : i = (j : Int)) (hl : j < n) : chk i n = some j := by rw [h, chk_nat hl]
/-- The printed operations on lists. -/
theorem swap_do {i j n : Int} {l : List Int} {I J : Nat} {x y : Int} (hi : i = I) (hj : j = J) (hI : l[I]? = some x) (hJ : l[J]? = some y) :
    curve_swap_do N (i, j, ()) n l = some ((l.set I y).set J x, ()) := by
  have lI := (List.getElem?_eq_some_iff.1 hI).1
  have lJ := (List.getElem?_eq_some_iff.1 hJ).1
  unfold curve_swap_do curve_swap_do_g
  simp only [hi, hj, chk_nat lI, chk_nat lJ, Option.bind_some, hI, hJ, List.length_set]
theorem flip_do {i j : Int} {n : Nat} (hn : n < 63) {l : List Int} {I J : Nat} {x y : Nat} (hx : x < 9223372036854775808) (hy : y < 9223372036854775808) (hi : i = I) (hj : j = J) (hI : l[I]? = some (x : Int)) (hJ : l[J]? = some (y : Int)) :
    curve_flip_do N (i, j, ()) (n : Int) l = some ((l.set I ((y ^^^ (2 ^ n - 1) : Nat) : Int)).set J ((x ^^^ (2 ^ n - 1) : Nat) : Int), ()) := by
  have lI := (List.getElem?_eq_some_iff.1 hI).1
  have lJ := (List.getElem?_eq_some_iff.1 hJ).1
  have h3 : 2 ^ 63 = 9223372036854775808 := by decide
  have h2 : 2 ^ n - 1 < 9223372036854775808 := by have : 2 ^ n < 2 ^ 63 := Nat.pow_lt_pow_right (a := 2) (by decide) hn; omega
  unfold curve_flip_do curve_flip_do_g
  simp only [hi, hj, chk_nat lI, chk_nat lJ, Option.bind_some, hI, hJ, List.length_set, ones_n hn, xor_n hx h2, xor_n hy h2, if_neg (show ¬ ((n : Int) < 0) by omega)]
theorem invert_do {i j : Int} {n : Nat} (hn : n < 63) {l : List Int} {I J : Nat} {x y : Nat} (hx : x < 9223372036854775808) (hy : y < 9223372036854775808) (hi : i = I) (hj : j = J) (hI : l[I]? = some (x : Int)) (hJ : l[J]? = some (y : Int)) :
    curve_invert_do N (i, j, ()) (n : Int) l = some ((l.set I ((x ^^^ (2 ^ n - 1) : Nat) : Int)).set J ((y ^^^ (2 ^ n - 1) : Nat) : Int), ()) := by
  have lI := (List.getElem?_eq_some_iff.1 hI).1
  have lJ := (List.getElem?_eq_some_iff.1 hJ).1
  have h3 : 2 ^ 63 = 9223372036854775808 := by decide
  have h2 : 2 ^ n - 1 < 9223372036854775808 := by have : 2 ^ n < 2 ^ 63 := Nat.pow_lt_pow_right (a := 2) (by decide) hn; omega
  unfold curve_invert_do curve_invert_do_g
  simp only [hi, hj, chk_nat lI, chk_nat lJ, Option.bind_some, hI, hJ, List.length_set, ones_n hn, xor_n hx h2, xor_n hy h2, if_neg (show ¬ ((n : Int) < 0) by omega)]
/-- What the printed operations do, at once. -/
def doP (N : Nat) (n : Int) : O → List Int → Option (List Int × Unit)
  | .sw i j, l => curve_swap_do N ((i : Int), (j : Int), ()) n l
  | .fl i j, l => curve_flip_do N ((i : Int), (j : Int), ()) n l
  | .iv i j, l => curve_invert_do N ((i : Int), (j : Int), ()) n l
def O.le : O → Nat → Prop
  | .sw i j, d => i < d ∧ j < d ∧ i ≠ j
  | .fl i j, d => i < d ∧ j < d ∧ i ≠ j
  | .iv i j, d => i < d ∧ j < d ∧ i ≠ j
def Ln (d : Nat) (f : Nat → Nat) : List Int := (List.range d).map fun k => (f k : Int)
theorem Ln_at {d k : Nat} (f : Nat → Nat) (h : k < d) : (Ln d f)[k]? = some (f k : Int) := by
  unfold Ln; rw [List.getElem?_map, List.getElem?_range h]; rfl
theorem Ln_set2 {d i j : Nat} (f : Nat → Nat) (x y : Nat) (hi : i < d) (hj : j < d) : ((Ln d f).set i (x : Int)).set j (y : Int) = Ln d fun k => if k = j then y else if k = i then x else f k := by
  apply List.ext_getElem?
  intro k
  rcases Nat.lt_or_ge k d with h | h
  · rw [Ln_at _ h, List.getElem?_set, List.getElem?_set]
    have e : (Ln d f).length = d := by simp [Ln]
    simp only [List.length_set, e, hi, hj, if_true, Ln_at _ h]
    by_cases h1 : j = k
    · rw [if_pos h1, if_pos h1.symm]
    · rw [if_neg h1, if_neg (Ne.symm h1)]
      by_cases h2 : i = k
      · rw [if_pos h2, if_pos h2.symm]
      · rw [if_neg h2, if_neg (Ne.symm h2)]
  · rw [List.getElem?_eq_none (by simp [Ln]; omega), List.getElem?_eq_none (by simp [Ln]; omega)]
theorem doP_eq {d n : Nat} (hn : n < 63) {o : O} (ho : O.le o d) {f : Nat → Nat} (hf : ∀ k, f k < 9223372036854775808) : doP N (n : Int) o (Ln d f) = some (Ln d (actO (2 ^ n - 1) o f), ()) := by
  cases o with
  | sw i j =>
    obtain ⟨hi, hj, hne⟩ := ho
    simp only [doP]
    rw [swap_do rfl rfl (Ln_at f hi) (Ln_at f hj), Ln_set2 _ _ _ hi hj]
    rfl
  | fl i j =>
    obtain ⟨hi, hj, hne⟩ := ho
    simp only [doP]
    rw [flip_do hn (hf i) (hf j) rfl rfl (Ln_at f hi) (Ln_at f hj), Ln_set2 _ _ _ hi hj]
    rfl
  | iv i j =>
    obtain ⟨hi, hj, hne⟩ := ho
    simp only [doP]
    rw [invert_do hn (hf i) (hf j) rfl rfl (Ln_at f hi) (Ln_at f hj), Ln_set2 _ _ _ hi hj]
    rfl
theorem lt63 {n : Nat} (o : O) (hn : n < 63) {f : Nat → Nat} (hf : ∀ k, f k < 9223372036854775808) (k : Nat) : actO (2 ^ n - 1) o f k < 9223372036854775808 := by
  have h3 : 2 ^ 63 = 9223372036854775808 := by decide
  have h2 : 2 ^ n - 1 < 2 ^ 63 := by have : 2 ^ n < 2 ^ 63 := Nat.pow_lt_pow_right (a := 2) (by decide) hn; omega
  have hx : ∀ a, a < 9223372036854775808 → a ^^^ (2 ^ n - 1) < 9223372036854775808 := fun a ha => Nat.xor_lt_two_pow (n := 63) ha h2
  cases o <;> simp only [actO] <;> (repeat' split) <;> first | exact hf _ | exact hx _ (hf _)
theorem act_lt63 {n : Nat} (hn : n < 63) : ∀ (l : List O) {f : Nat → Nat} (hf : ∀ k, f k < 9223372036854775808) (k : Nat), act (2 ^ n - 1) l f k < 9223372036854775808
  | [], _, hf, k => hf k
  | o :: l, f, hf, k => act_lt63 hn l (lt63 o hn hf) k
/-- A list of operations, one after another. -/
def doL (N : Nat) (n : Int) : List O → List Int → Option (List Int × Unit)
  | [], l => some (l, ())
  | o :: r, l => (doP N n o l).bind fun v => doL N n r v.1
theorem doL_eq {d n : Nat} (hn : n < 63) : ∀ {l : List O} (hl : ∀ o ∈ l, O.le o d) {f : Nat → Nat} (hf : ∀ k, f k < 9223372036854775808), doL N (n : Int) l (Ln d f) = some (Ln d (act (2 ^ n - 1) l f), ())
  | [], _, f, _ => rfl
  | o :: r, hl, f, hf => by
    simp only [doL, act]
    rw [doP_eq hn (hl o (by simp)) hf]
    simp only [Option.bind_some]
    exact doL_eq hn (fun o ho => hl o (by simp [ho])) (lt63 o hn hf)
theorem bid (o : Option (List Int × Unit)) : (o.bind fun v => some (v.1, ())) = o := by cases o <;> rfl
include hN in
theorem rot2 (v1 : Int × Unit) (n : Int) (l : List Int) : ∀ (e : Nat), e < 4 → curve_Hilbert2D_rot N v1 n l (e : Int) = doL N n (T2 e) l
  | 0, _ => by simp [curve_Hilbert2D_rot, curve_Hilbert2D_rot_g, T2, doL, doP, bid]
  | 1, _ => by simp [curve_Hilbert2D_rot, curve_Hilbert2D_rot_g, T2, doL, doP, bid]
  | 2, _ => by simp [curve_Hilbert2D_rot, curve_Hilbert2D_rot_g, T2, doL, doP, bid]
  | 3, _ => by simp [curve_Hilbert2D_rot, curve_Hilbert2D_rot_g, T2, doL, doP, bid]
  | n + 4, h => by omega
include hN in
theorem rot3 (v1 : Int × Unit) (rev : Bool) (n : Int) (l : List Int) (e : Nat) (he : e < 8) : curve_Hilbert3D_rot N v1 rev n l (e : Int) = doL N n (bif rev then (T3 e).reverse else T3 e) l := by
  match e, he with
  | 0, _ | 1, _ | 2, _ | 3, _ | 4, _ | 5, _ | 6, _ | 7, _ =>
    cases rev <;>
    simp [curve_Hilbert3D_rot, curve_Hilbert3D_rot_g, curve_Hilbert3D_rot_j0, curve_Hilbert3D_rot_g0, curve_Hilbert3D_rot_j1, curve_Hilbert3D_rot_g1, curve_Hilbert3D_rot_j2, curve_Hilbert3D_rot_g2, gate_pos hN, T3, doL, doP, bid,
      curve_swap_, curve_swap__g, curve_flip_, curve_flip__g]
  | n + 8, h => omega
include hN in
theorem rot4 (v1 : Int × Unit) (rev : Bool) (n : Int) (l : List Int) (e : Nat) (he : e < 16) : curve_Hilbert4D_rot N v1 rev n l (e : Int) = doL N n (bif rev then (T4 e).reverse else T4 e) l := by
  match e, he with
  | 0, _ | 1, _ | 2, _ | 3, _ | 4, _ | 5, _ | 6, _ | 7, _ | 8, _ | 9, _ | 10, _ | 11, _ | 12, _ | 13, _ | 14, _ | 15, _ =>
    cases rev <;>
    simp [curve_Hilbert4D_rot, curve_Hilbert4D_rot_g, curve_Hilbert4D_rot_j0, curve_Hilbert4D_rot_g0, curve_Hilbert4D_rot_j1, curve_Hilbert4D_rot_g1, curve_Hilbert4D_rot_j2, curve_Hilbert4D_rot_g2,
      curve_Hilbert4D_rot_j3, curve_Hilbert4D_rot_g3, curve_Hilbert4D_rot_j4, curve_Hilbert4D_rot_g4, curve_Hilbert4D_rot_j5, curve_Hilbert4D_rot_g5, curve_Hilbert4D_rot_j6, curve_Hilbert4D_rot_g6, gate_pos hN, T4, doL, doP, bid,
      curve_swap_, curve_swap__g, curve_flip_, curve_flip__g, curve_swap__b, curve_swap__b_g]
  | n + 16, h => omega
theorem T2_le (e : Nat) : ∀ o ∈ T2 e, O.le o 2 := by
  unfold T2; split <;> simp [O.le]
theorem T3_le (e : Nat) : ∀ o ∈ T3 e, O.le o 3 := by
  unfold T3; split <;> simp [O.le]
theorem T4_le (e : Nat) : ∀ o ∈ T4 e, O.le o 4 := by
  unfold T4; split <;> simp [O.le]
theorem rev_le {l : List O} {d : Nat} (h : ∀ o ∈ l, O.le o d) (b : Bool) : ∀ o ∈ (bif b then l.reverse else l), O.le o d := by
  cases b
  · exact h
  · intro o ho; exact h o (by simpa using ho)
theorem xor2 (a b : Nat) : (a ^^^ b) % 2 = (a + b) % 2 := by
  have h := Nat.xor_mod_two_pow (a := a) (b := b) (n := 1)
  simp only [Nat.pow_one] at h
  rw [h, Nat.add_mod]
  have h1 : a % 2 = 0 ∨ a % 2 = 1 := by omega
  have h2 : b % 2 = 0 ∨ b % 2 = 1 := by omega
  rcases h1 with h1 | h1 <;> rcases h2 with h2 | h2 <;> rw [h1, h2] <;> rfl
theorem c0 (a : Int) (l : List Int) : chk 0 (a :: l).length = some 0 := chkl 0 rfl (by simp)
theorem c1 (a b : Int) (l : List Int) : chk 1 (a :: b :: l).length = some 1 := chkl 1 rfl (by simp)
theorem c2 (a b c : Int) (l : List Int) : chk 2 (a :: b :: c :: l).length = some 2 := chkl 2 rfl (by simp)
theorem c3 (a b c d : Int) (l : List Int) : chk 3 (a :: b :: c :: d :: l).length = some 3 := chkl 3 rfl (by simp)
theorem gr_n {e k : Nat} (he : e < 9223372036854775808) (hk : k < 60) : bits .and .i64 (bits .xor .i64 ((e / 2 ^ k : Nat) : Int) ((e / 2 ^ (k + 1) : Nat) : Int)) 1 = (gr e k : Int) := by
  have h1 : e / 2 ^ k < 9223372036854775808 := Nat.lt_of_le_of_lt (Nat.div_le_self _ _) he
  have h2 : e / 2 ^ (k + 1) < 9223372036854775808 := Nat.lt_of_le_of_lt (Nat.div_le_self _ _) he
  rw [xor_n h1 h2, show (1 : Int) = ((1 : Nat) : Int) from rfl, and_n (Nat.xor_lt_two_pow (n := 63) h1 h2) (by decide), Nat.and_one_is_mod, xor2]
  rfl
theorem pow_le {n m : Nat} (h : n ≤ m) : 2 ^ n ≤ 2 ^ m := Nat.pow_le_pow_right (by decide) h
theorem p62 : 2 ^ 62 = 4611686018427387904 := by decide
theorem grs {e k n : Nat} (hn : n ≤ 61) : IntKind.i64.wrap ((gr e k : Int) * 2 ^ (min (n : Int).toNat (IntKind.bits .i64))) = ((gr e k * 2 ^ n : Nat) : Int) := by
  have h1 := gr_lt e k
  have h2 := pow_le hn
  have h3 : gr e k * 2 ^ n ≤ 1 * 2 ^ n := Nat.mul_le_mul_right _ (by omega)
  have h4 : 2 ^ 61 < 9223372036854775808 := by decide
  exact shl_n (by omega) (by omega)
theorem addn {a b : Nat} (h : a + b < 9223372036854775808) : IntKind.i64.wrap ((a : Int) + (b : Int)) = ((a + b : Nat) : Int) := by
  rw [← Int.natCast_add, wrapn h]
theorem C_big {d : Nat} {T : Nat → List O} {p n : Nat} (hn : n ≤ 62) (k : Nat) : C d T p n k < 9223372036854775808 := by
  have := C_lt d T p n k
  have := pow_le hn
  have := p62
  omega
theorem div_next (p d n : Nat) : p / 2 ^ (d * n) / 2 ^ d = p / 2 ^ (d * (n + 1)) := by
  rw [Nat.div_div_eq_div_mul, ← Nat.pow_add]; rfl
section
variable (hNl : 100 ≤ N)
include hN
theorem coord2_loop {order p : Nat} (ho : order ≤ 31) (hp : p < 2 ^ 62) : ∀ (k n fuel : Nat), n + k = order → k + 1 ≤ fuel →
    curve_Hilbert2D_Coord_l0 N fuel ((order : Int), ()) ((p / 2 ^ (2 * n) : Nat) : Int) (n : Int) (Ln 2 (C 2 T2 p n)) = some (Ln 2 (C 2 T2 p order), ())
  | 0, n, 0, _, h => by omega
  | 0, n, f + 1, h, _ => by
    simp only [curve_Hilbert2D_Coord_l0, curve_Hilbert2D_Coord_g0, Bool.cond_decide]
    rw [if_neg (by omega), show n = order by omega]
  | k + 1, n, 0, _, h => by omega
  | k + 1, n, f + 1, h, hf => by
    have hP : p / 2 ^ (2 * n) < 9223372036854775808 := by have := Nat.div_le_self p (2 ^ (2 * n)); have := p62; omega
    have he : dig 2 p n < 4 := Nat.mod_lt _ (by decide)
    have e1 : bits .and .i64 ((p / 2 ^ (2 * n) : Nat) : Int) 3 = (dig 2 p n : Int) := by
      rw [show (3 : Int) = ((2 ^ 2 - 1 : Nat) : Int) from rfl, and_n hP (by decide), and_ones]; rfl
    have e2 := rot2 hN ((order : Int), ()) (n : Int) (Ln 2 (C 2 T2 p n)) (dig 2 p n) he
    have e3 : doL N (n : Int) (T2 (dig 2 p n)) (Ln 2 (C 2 T2 p n)) = some (Ln 2 (act (2 ^ n - 1) (T2 (dig 2 p n)) (C 2 T2 p n)), ()) :=
      doL_eq (by omega) (T2_le _) (C_big (by omega))
    have e4 : T2 (dig 2 p n) = (T2 (dig 2 p n)).reverse := by
      have : dig 2 p n = 0 ∨ dig 2 p n = 1 ∨ dig 2 p n = 2 ∨ dig 2 p n = 3 := by omega
      rcases this with h | h | h | h <;> rw [h] <;> rfl
    have g0 : bits .and .i64 (bits .xor .i64 (Int.fdiv (dig 2 p n : Int) (2 ^ (min (0 : Int).toNat (IntKind.bits .i64)))) (Int.fdiv (dig 2 p n : Int) (2 ^ (min (1 : Int).toNat (IntKind.bits .i64))))) 1 = (gr (dig 2 p n) 0 : Int) := by
      rw [show (0 : Int) = ((0 : Nat) : Int) from rfl, show (1 : Int) = ((1 : Nat) : Int) from rfl, shr_n _ (by decide), shr_n _ (by decide)]
      exact gr_n (by omega) (by decide)
    have g1 : Int.fdiv (dig 2 p n : Int) (2 ^ (min (1 : Int).toNat (IntKind.bits .i64))) = (gr (dig 2 p n) 1 : Int) := by
      rw [show (1 : Int) = ((1 : Nat) : Int) from rfl, shr_n _ (by decide)]
      congr 1
      unfold gr
      omega
    have s2 : Int.fdiv ((p / 2 ^ (2 * n) : Nat) : Int) (2 ^ (min (2 : Int).toNat (IntKind.bits .i64))) = ((p / 2 ^ (2 * (n + 1)) : Nat) : Int) := by
      rw [show (2 : Int) = ((2 : Nat) : Int) from rfl]
      rw [show ((2 : Nat) : Int) ^ (min ((2 : Nat) : Int).toNat (IntKind.bits .i64)) = 2 ^ (min ((2 : Nat) : Int).toNat (IntKind.bits .i64)) from rfl, shr_n _ (by decide), div_next]
    simp only [curve_Hilbert2D_Coord_l0, curve_Hilbert2D_Coord_g0, Bool.cond_decide]
    rw [if_pos (by omega), e1, e2, e3, e4]
    simp only [Option.bind_some]
    rw [g0, g1, grs (by omega), grs (by omega)]
    generalize hg : act (2 ^ n - 1) (T2 (dig 2 p n)).reverse (C 2 T2 p n) = g at *
    have hb : ∀ k, g k + gr (dig 2 p n) k * 2 ^ n = C 2 T2 p (n + 1) k := fun k => by rw [← hg]; rfl
    have hlt := C_big (d := 2) (T := T2) (p := p) (n := n + 1) (by omega)
    rw [show Ln 2 g = [(g 0 : Int), (g 1 : Int)] from rfl]
    simp only [c0, c1, Option.bind_some, List.getElem?_cons_zero, List.getElem?_cons_succ, List.set_cons_zero, List.set_cons_succ, if_neg (show ¬ ((n : Int) < 0) by omega)]
    rw [addn (by rw [hb]; exact hlt 0), addn (by rw [hb]; exact hlt 1), hb, hb, s2, show (n : Int) + 1 = ((n + 1 : Nat) : Int) by omega, wrapn (by omega)]
    exact coord2_loop ho hp k (n + 1) f (by omega) (by omega)
theorem coord3_loop {order p : Nat} (ho : order ≤ 20) (hp : p < 2 ^ 62) : ∀ (k n fuel : Nat), n + k = order → k + 1 ≤ fuel →
    curve_Hilbert3D_Coord_l0 N fuel ((order : Int), ()) ((p / 2 ^ (3 * n) : Nat) : Int) (n : Int) (Ln 3 (C 3 T3 p n)) = some (Ln 3 (C 3 T3 p order), ())
  | 0, n, 0, _, h => by omega
  | 0, n, f + 1, h, _ => by
    simp only [curve_Hilbert3D_Coord_l0, curve_Hilbert3D_Coord_g0, Bool.cond_decide]
    rw [if_neg (by omega), show n = order by omega]
  | k + 1, n, 0, _, h => by omega
  | k + 1, n, f + 1, h, hf => by
    have hP : p / 2 ^ (3 * n) < 9223372036854775808 := by have := Nat.div_le_self p (2 ^ (3 * n)); have := p62; omega
    have he : dig 3 p n < 8 := Nat.mod_lt _ (by decide)
    have e1 : bits .and .i64 ((p / 2 ^ (3 * n) : Nat) : Int) 7 = (dig 3 p n : Int) := by
      rw [show (7 : Int) = ((2 ^ 3 - 1 : Nat) : Int) from rfl, and_n hP (by decide), and_ones]; rfl
    have e2 := rot3 hN ((order : Int), ()) true (n : Int) (Ln 3 (C 3 T3 p n)) (dig 3 p n) he
    have e3 : doL N (n : Int) (bif true then (T3 (dig 3 p n)).reverse else T3 (dig 3 p n)) (Ln 3 (C 3 T3 p n)) = some (Ln 3 (act (2 ^ n - 1) (bif true then (T3 (dig 3 p n)).reverse else T3 (dig 3 p n)) (C 3 T3 p n)), ()) :=
      doL_eq (by omega) (rev_le (T3_le _) true) (C_big (by omega))
    simp only [cond_true] at e2 e3
    have g0 : bits .and .i64 (bits .xor .i64 (Int.fdiv (dig 3 p n : Int) (2 ^ (min (0 : Int).toNat (IntKind.bits .i64)))) (Int.fdiv (dig 3 p n : Int) (2 ^ (min (1 : Int).toNat (IntKind.bits .i64))))) 1 = (gr (dig 3 p n) 0 : Int) := by
      rw [show (0 : Int) = ((0 : Nat) : Int) from rfl, show (1 : Int) = ((1 : Nat) : Int) from rfl, shr_n _ (by decide), shr_n _ (by decide)]
      exact gr_n (by omega) (by decide)
    have g1 : bits .and .i64 (bits .xor .i64 (Int.fdiv (dig 3 p n : Int) (2 ^ (min (1 : Int).toNat (IntKind.bits .i64)))) (Int.fdiv (dig 3 p n : Int) (2 ^ (min (2 : Int).toNat (IntKind.bits .i64))))) 1 = (gr (dig 3 p n) 1 : Int) := by
      have := shr_n (dig 3 p n) (n := 1) (by decide)
      have h2 := shr_n (dig 3 p n) (n := 2) (by decide)
      rw [show (min (1 : Int).toNat (IntKind.bits .i64)) = (min ((1 : Nat) : Int).toNat (IntKind.bits .i64)) from rfl, this, show (min (2 : Int).toNat (IntKind.bits .i64)) = (min ((2 : Nat) : Int).toNat (IntKind.bits .i64)) from rfl, h2]
      exact gr_n (by omega) (by decide)
    have g2 : Int.fdiv (dig 3 p n : Int) (2 ^ (min (2 : Int).toNat (IntKind.bits .i64))) = (gr (dig 3 p n) 2 : Int) := by
      have h2 := shr_n (dig 3 p n) (n := 2) (by decide)
      rw [show (min (2 : Int).toNat (IntKind.bits .i64)) = (min ((2 : Nat) : Int).toNat (IntKind.bits .i64)) from rfl, h2]
      congr 1
      unfold gr
      omega
    have s2 : Int.fdiv ((p / 2 ^ (3 * n) : Nat) : Int) (2 ^ (min (3 : Int).toNat (IntKind.bits .i64))) = ((p / 2 ^ (3 * (n + 1)) : Nat) : Int) := by
      have h2 := shr_n (p / 2 ^ (3 * n)) (n := 3) (by decide)
      rw [show (min (3 : Int).toNat (IntKind.bits .i64)) = (min ((3 : Nat) : Int).toNat (IntKind.bits .i64)) from rfl, h2, div_next]
    simp only [curve_Hilbert3D_Coord_l0, curve_Hilbert3D_Coord_g0, Bool.cond_decide]
    rw [if_pos (by omega), e1, e2, e3]
    simp only [Option.bind_some]
    rw [g0, g1, g2, grs (by omega), grs (by omega), grs (by omega)]
    generalize hg : act (2 ^ n - 1) (T3 (dig 3 p n)).reverse (C 3 T3 p n) = g at *
    have hb : ∀ k, g k + gr (dig 3 p n) k * 2 ^ n = C 3 T3 p (n + 1) k := fun k => by rw [← hg]; rfl
    have hlt := C_big (d := 3) (T := T3) (p := p) (n := n + 1) (by omega)
    rw [show Ln 3 g = [(g 0 : Int), (g 1 : Int), (g 2 : Int)] from rfl]
    simp only [c0, c1, c2, Option.bind_some, List.getElem?_cons_zero, List.getElem?_cons_succ, List.set_cons_zero, List.set_cons_succ, if_neg (show ¬ ((n : Int) < 0) by omega)]
    rw [addn (by rw [hb]; exact hlt 0), addn (by rw [hb]; exact hlt 1), addn (by rw [hb]; exact hlt 2), hb, hb, hb, s2, show (n : Int) + 1 = ((n + 1 : Nat) : Int) by omega, wrapn (by omega)]
    exact coord3_loop ho hp k (n + 1) f (by omega) (by omega)
omit hN in
theorem Ln_set {d i : Nat} (f : Nat → Nat) (x : Nat) (hi : i < d) : (Ln d f).set i (x : Int) = Ln d fun k => if k = i then x else f k := by
  apply List.ext_getElem?
  intro k
  rcases Nat.lt_or_ge k d with h | h
  · rw [Ln_at _ h, List.getElem?_set]
    have e : (Ln d f).length = d := by simp [Ln]
    simp only [e, hi, if_true, Ln_at _ h]
    by_cases h1 : i = k
    · rw [if_pos h1, if_pos h1.symm]
    · rw [if_neg h1, if_neg (Ne.symm h1)]
  · rw [List.getElem?_eq_none (by simp [Ln]; omega), List.getElem?_eq_none (by simp [Ln]; omega)]
theorem coord4_in (v1 : Int × Unit) (r0 : Int → Int → List Int → Option (List Int × Unit)) (v14 : Int) {n e : Nat} (he : e < 16) (hn : n ≤ 61) (g : Nat → Nat) (hb : ∀ k, g k + gr e k * 2 ^ n < 9223372036854775808) :
    ∀ (k i fuel : Nat), i + k = 4 → k + 1 ≤ fuel → curve_Hilbert4D_Coord_l1 N r0 v1 fuel v14 (n : Int) (i : Int) ((e / 2 ^ i : Nat) : Int) (Ln 4 fun j => if j < i then g j + gr e j * 2 ^ n else g j)
      = r0 (Int.fdiv v14 (2 ^ (min (4 : Int).toNat (IntKind.bits .i64)))) (IntKind.i64.wrap ((n : Int) + 1)) (Ln 4 fun j => g j + gr e j * 2 ^ n)
  | 0, i, 0, _, h => by omega
  | 0, i, f + 1, h, _ => by
    simp only [curve_Hilbert4D_Coord_l1, curve_Hilbert4D_Coord_g1, Bool.cond_decide]
    rw [if_neg (by omega), show i = 4 by omega]
    congr 1
  | k + 1, i, 0, _, h => by omega
  | k + 1, i, f + 1, h, hf => by
    have hi : i < 4 := by omega
    have s1 : Int.fdiv ((e / 2 ^ i : Nat) : Int) (2 ^ (min (1 : Int).toNat (IntKind.bits .i64))) = ((e / 2 ^ (i + 1) : Nat) : Int) := by
      have h2 := shr_n (e / 2 ^ i) (n := 1) (by decide)
      rw [show (min (1 : Int).toNat (IntKind.bits .i64)) = (min ((1 : Nat) : Int).toNat (IntKind.bits .i64)) from rfl, h2, Nat.div_div_eq_div_mul, ← Nat.pow_add]
    have hl : (Ln 4 fun j => if j < i then g j + gr e j * 2 ^ n else g j).length = 4 := by simp [Ln]
    simp only [curve_Hilbert4D_Coord_l1, curve_Hilbert4D_Coord_g1, Bool.cond_decide]
    rw [if_pos (by omega), hl, chk_nat hi]
    simp only [Option.bind_some, Ln_at _ hi, if_neg (show ¬ ((n : Int) < 0) by omega)]
    rw [s1, gr_n (by omega) (by omega), grs hn, if_neg (by omega), addn (hb i), Ln_set _ _ hi, show (i : Int) + 1 = ((i + 1 : Nat) : Int) by omega, wrapn (by omega)]
    rw [← coord4_in v1 r0 v14 he hn g hb k (i + 1) f (by omega) (by omega)]
    congr 1
    congr 1
    funext j
    by_cases h1 : j = i
    · rw [if_pos h1, if_pos (by omega), h1]
    · rw [if_neg h1]
      by_cases h2 : j < i
      · rw [if_pos h2, if_pos (by omega)]
      · rw [if_neg h2, if_neg (by omega)]
include hNl in
theorem coord4_loop {order p : Nat} (ho : order ≤ 15) (hp : p < 2 ^ 62) : ∀ (k n fuel : Nat), n + k = order → k + 1 ≤ fuel →
    curve_Hilbert4D_Coord_l0 N fuel ((order : Int), ()) ((p / 2 ^ (4 * n) : Nat) : Int) (n : Int) (Ln 4 (C 4 T4 p n)) = some (Ln 4 (C 4 T4 p order), ())
  | 0, n, 0, _, h => by omega
  | 0, n, f + 1, h, _ => by
    simp only [curve_Hilbert4D_Coord_l0, curve_Hilbert4D_Coord_g0, Bool.cond_decide]
    rw [if_neg (by omega), show n = order by omega]
  | k + 1, n, 0, _, h => by omega
  | k + 1, n, f + 1, h, hf => by
    have hP : p / 2 ^ (4 * n) < 9223372036854775808 := by have := Nat.div_le_self p (2 ^ (4 * n)); have := p62; omega
    have he : dig 4 p n < 16 := Nat.mod_lt _ (by decide)
    have e1 : bits .and .i64 ((p / 2 ^ (4 * n) : Nat) : Int) (IntKind.i64.wrap ((IntKind.i64.wrap (1 * 2 ^ (min (4 : Int).toNat (IntKind.bits .i64)))) - 1)) = (dig 4 p n : Int) := by
      have := ones_n (n := 4) (by decide)
      rw [show (min (4 : Int).toNat (IntKind.bits .i64)) = (min ((4 : Nat) : Int).toNat (IntKind.bits .i64)) from rfl, this, and_n hP (by decide), and_ones]; rfl
    have e2 := rot4 hN ((order : Int), ()) true (n : Int) (Ln 4 (C 4 T4 p n)) (dig 4 p n) he
    have e3 : doL N (n : Int) (bif true then (T4 (dig 4 p n)).reverse else T4 (dig 4 p n)) (Ln 4 (C 4 T4 p n)) = some (Ln 4 (act (2 ^ n - 1) (bif true then (T4 (dig 4 p n)).reverse else T4 (dig 4 p n)) (C 4 T4 p n)), ()) :=
      doL_eq (by omega) (rev_le (T4_le _) true) (C_big (by omega))
    simp only [cond_true] at e2 e3
    have s2 : Int.fdiv ((p / 2 ^ (4 * n) : Nat) : Int) (2 ^ (min (4 : Int).toNat (IntKind.bits .i64))) = ((p / 2 ^ (4 * (n + 1)) : Nat) : Int) := by
      have h2 := shr_n (p / 2 ^ (4 * n)) (n := 4) (by decide)
      rw [show (min (4 : Int).toNat (IntKind.bits .i64)) = (min ((4 : Nat) : Int).toNat (IntKind.bits .i64)) from rfl, h2, div_next]
    simp only [curve_Hilbert4D_Coord_l0, curve_Hilbert4D_Coord_g0, Bool.cond_decide]
    rw [if_pos (by omega), e1, e2, e3]
    simp only [Option.bind_some]
    generalize hg : act (2 ^ n - 1) (T4 (dig 4 p n)).reverse (C 4 T4 p n) = g at *
    have hb : ∀ k, g k + gr (dig 4 p n) k * 2 ^ n = C 4 T4 p (n + 1) k := fun k => by rw [← hg]; rfl
    have hlt := C_big (d := 4) (T := T4) (p := p) (n := n + 1) (by omega)
    have := coord4_in hN ((order : Int), ()) (curve_Hilbert4D_Coord_l0 N f ((order : Int), ())) ((p / 2 ^ (4 * n) : Nat) : Int) he (n := n) (by omega) g (fun k => by rw [hb]; exact hlt k) 4 0 N (by omega) (by omega)
    simp only [Nat.not_lt_zero, if_false, Nat.pow_zero, Nat.div_one] at this
    rw [show (0 : Int) = ((0 : Nat) : Int) from rfl, show Ln 4 g = Ln 4 (fun j => g j) from rfl, this, s2, show (n : Int) + 1 = ((n + 1 : Nat) : Int) by omega, wrapn (by omega)]
    rw [show (fun j => g j + gr (dig 4 p n) j * 2 ^ n) = C 4 T4 p (n + 1) from funext hb]
    exact coord4_loop ho hp k (n + 1) f (by omega) (by omega)
omit hN in
theorem bit_n {a n : Nat} (ha : a < 9223372036854775808) (hn : n < 64) : bits .and .i64 (Int.fdiv (a : Int) (2 ^ (min (n : Int).toNat (IntKind.bits .i64)))) 1 = ((a / 2 ^ n % 2 : Nat) : Int) := by
  have h1 : a / 2 ^ n < 9223372036854775808 := Nat.lt_of_le_of_lt (Nat.div_le_self _ _) ha
  rw [shr_n _ hn, show (1 : Int) = ((1 : Nat) : Int) from rfl, and_n h1 (by decide), Nat.and_one_is_mod]
omit hN in
theorem add_d {d p m : Nat} (hp : p < 2 ^ 62) (hm : d * m < 62) :
    IntKind.i64.wrap (((p / 2 ^ (d * (m + 1)) * 2 ^ (d * (m + 1)) : Nat) : Int) + IntKind.i64.wrap ((dig d p m : Int) * 2 ^ (min ((d * m : Nat) : Int).toNat (IntKind.bits .i64)))) = ((p / 2 ^ (d * m) * 2 ^ (d * m) : Nat) : Int) := by
  have h1 := dig_sum d p m
  have h2 : p / 2 ^ (d * m) * 2 ^ (d * m) ≤ p := Nat.div_mul_le_self _ _
  have := p62
  rw [shl_n (by omega) (by omega), addn (by omega), h1]
theorem e_step {E i : Nat} (hE : E < 16) : bits .or .i64 (IntKind.i64.wrap (((E / 2 ^ (i + 1) : Nat) : Int) * 2 ^ (min (1 : Int).toNat (IntKind.bits .i64)))) (bits .and .i64 (bits .xor .i64 ((E / 2 ^ (i + 1) : Nat) : Int) ((gr E i : Nat) : Int)) 1) = ((E / 2 ^ i : Nat) : Int) := by
  have h1 : E / 2 ^ (i + 1) < 16 := Nat.lt_of_le_of_lt (Nat.div_le_self _ _) hE
  have h2 := gr_lt E i
  have e0 : E / 2 ^ (i + 1) = E / 2 ^ i / 2 := by rw [Nat.pow_succ, Nat.div_div_eq_div_mul]
  have h3 : E / 2 ^ i < 16 := Nat.lt_of_le_of_lt (Nat.div_le_self _ _) hE
  rw [xor_n (by omega) (by omega), show (1 : Int) = ((1 : Nat) : Int) from rfl, and_n (Nat.xor_lt_two_pow (n := 63) (by omega) (by omega)) (by decide), Nat.and_one_is_mod, xor2, shl_n (by decide) (by omega), or_n (by omega) (by omega)]
  unfold gr
  rw [e0]
  generalize E / 2 ^ i = x at h3
  congr 1
  have : x = 0 ∨ x = 1 ∨ x = 2 ∨ x = 3 ∨ x = 4 ∨ x = 5 ∨ x = 6 ∨ x = 7 ∨ x = 8 ∨ x = 9 ∨ x = 10 ∨ x = 11 ∨ x = 12 ∨ x = 13 ∨ x = 14 ∨ x = 15 := by omega
  rcases this with h | h | h | h | h | h | h | h | h | h | h | h | h | h | h | h <;> rw [h] <;> decide
include hNl
theorem new2 {o : Nat} (h1 : 1 ≤ o) (h2 : o ≤ 31) : curve_NewHilbert2D N (o : Int) = some (((o : Int), ()), (), ()) := by
  unfold curve_NewHilbert2D curve_NewHilbert2D_g
  rw [Bool.cond_decide, if_neg (by omega), wrap_in (by omega), Bool.cond_decide, if_neg (by omega)]
theorem new3 {o : Nat} (h1 : 1 ≤ o) (h2 : o ≤ 20) : curve_NewHilbert3D N (o : Int) = some (((o : Int), ()), (), ()) := by
  unfold curve_NewHilbert3D curve_NewHilbert3D_g
  rw [Bool.cond_decide, if_neg (by omega), wrap_in (by omega), Bool.cond_decide, if_neg (by omega)]
theorem new4 {o : Nat} (h1 : 1 ≤ o) (h2 : o ≤ 15) : curve_NewHilbert4D N (o : Int) = some (((o : Int), ()), (), ()) := by
  unfold curve_NewHilbert4D curve_NewHilbert4D_g
  rw [Bool.cond_decide, if_neg (by omega), wrap_in (by omega), Bool.cond_decide, if_neg (by omega)]
theorem coord2 {o p : Nat} (ho : o ≤ 31) (hp : p < 2 ^ 62) : curve_Hilbert2D_Coord N ((o : Int), ()) (p : Int) = some (Ln 2 (C 2 T2 p o), ()) := by
  unfold curve_Hilbert2D_Coord curve_Hilbert2D_Coord_g
  rw [show mkn 2 2 8 = some 2 from by decide]
  have := coord2_loop hN ho hp o 0 N (by omega) (by omega)
  simp only [Nat.mul_zero, Nat.pow_zero, Nat.div_one] at this
  exact this
theorem coord3 {o p : Nat} (ho : o ≤ 20) (hp : p < 2 ^ 62) : curve_Hilbert3D_Coord N ((o : Int), ()) (p : Int) = some (Ln 3 (C 3 T3 p o), ()) := by
  unfold curve_Hilbert3D_Coord curve_Hilbert3D_Coord_g
  rw [show mkn 3 3 8 = some 3 from by decide]
  have := coord3_loop hN ho hp o 0 N (by omega) (by omega)
  simp only [Nat.mul_zero, Nat.pow_zero, Nat.div_one] at this
  exact this
theorem coord4 {o p : Nat} (ho : o ≤ 15) (hp : p < 2 ^ 62) : curve_Hilbert4D_Coord N ((o : Int), ()) (p : Int) = some (Ln 4 (C 4 T4 p o), ()) := by
  unfold curve_Hilbert4D_Coord curve_Hilbert4D_Coord_g
  rw [show mkn 4 4 8 = some 4 from by decide]
  have := coord4_loop hN hNl ho hp o 0 N (by omega) (by omega)
  simp only [Nat.mul_zero, Nat.pow_zero, Nat.div_one] at this
  exact this
theorem C_self {d : Nat} {T : Nat → List O} {p n : Nat} (k : Nat) : C d T p n k % 2 ^ n = C d T p n k := Nat.mod_eq_of_lt (C_lt d T p n k)
theorem div0 {p d o : Nat} (h : p < 2 ^ (d * o)) : p / 2 ^ (d * o) * 2 ^ (d * o) = 0 := by rw [Nat.div_eq_of_lt h, Nat.zero_mul]
theorem curved_lt {d o : Int} (h : laws_curved N d o = some true) : (d = 2 ∧ 1 ≤ o ∧ o ≤ 31) ∨ (d = 3 ∧ 1 ≤ o ∧ o ≤ 20) ∨ (d = 4 ∧ 1 ≤ o ∧ o ≤ 15) := by
  unfold laws_curved laws_curved_g at h
  simp only [Bool.cond_decide] at h
  split at h
  · split at h
    · split at h
      · have : d = 2 ∨ d = 3 ∨ d = 4 := by omega
        rcases this with rfl | rfl | rfl
        · rw [show laws_orders N 2 = some 31 from by simp [laws_orders, laws_orders_g]] at h
          simp at h; omega
        · rw [show laws_orders N 3 = some 20 from by simp [laws_orders, laws_orders_g, wrap_in]] at h
          simp at h; omega
        · rw [show laws_orders N 4 = some 15 from by simp [laws_orders, laws_orders_g, wrap_in]] at h
          simp at h; omega
      · cases h
    · cases h
  · cases h
theorem curved_def (d o : Int) : ∃ b, laws_curved N d o = some b := by
  unfold laws_curved laws_curved_g
  simp only [Bool.cond_decide]
  split
  · split
    · split
      · have : d = 2 ∨ d = 3 ∨ d = 4 := by omega
        rcases this with rfl | rfl | rfl <;> simp [laws_orders, laws_orders_g]
      · exact ⟨_, rfl⟩
    · exact ⟨_, rfl⟩
  · exact ⟨_, rfl⟩
end
end Go.Proofs.YtjabjnkiddldeaaDoor.PvHilC
