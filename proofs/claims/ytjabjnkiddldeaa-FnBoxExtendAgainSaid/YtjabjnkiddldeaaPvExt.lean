/- The plain law of FnBoxExtendAgain: a box that is extended by a geometry is not changed if it is extended by it once more. -/
import Derived.Test.YtjabjnkiddldeaaPvGeoBE
import Derived.Test.YtjabjnkiddldeaaPv3
import Derived.Test.YtjabjnkiddldeaaFl8
set_option linter.unusedVariables false
set_option linter.unusedSectionVars false
set_option linter.unusedSimpArgs false
namespace Go.Proofs.Ytjabjnkiddldeaa.PvExt
open Go.Av Go
open Go.Proofs.Ytjabjnkiddldeaa.BE
open Go.Proofs.Ytjabjnkiddldeaa.PvGeoBE
abbrev Bx := Int × (List Nat × (List Nat × Unit))
abbrev S2 := List Nat × List Nat
def INF : Nat := 9218868437227405312
def NINF : Nat := 18442240474082181120
theorem infs : isnan INF = false ∧ isnan NINF = false := by decide +kernel
theorem stride_geom (N : Nat) (l : Int) (h : 1 ≤ l) : gogeom_Layout_Stride N l = some (strd l) := by
  simp only [gogeom_Layout_Stride, gogeom_Layout_Stride_g, strd, beq_iff_eq, Bool.cond_eq_ite, apply_ite some]
  repeat' split
  all_goals first | rfl | omega | (subst_vars; rfl) | skip
/-! ### rows of numbers taken into bounds -/
def stp (p : Nat × Nat) (st : S2) : S2 := (st.1.set p.1 (fpick true .lt (st.1.getD p.1 0) p.2), st.2.set p.1 (fpick false .gt (st.2.getD p.1 0) p.2))
def runP : List (Nat × Nat) → S2 → S2
  | [], st => st
  | p :: r, st => runP r (stp p st)
theorem runP_append : ∀ (a b : List (Nat × Nat)) (st : S2), runP (a ++ b) st = runP b (runP a st)
  | [], b, st => rfl
  | p :: a, b, st => runP_append a b _
structure OK (n : Nat) (st : S2) : Prop where
  l1 : st.1.length = n
  l2 : st.2.length = n
  v1 : ∀ k, k < n → isnan (st.1.getD k 0) = false
  v2 : ∀ k, k < n → isnan (st.2.getD k 0) = false
theorem getD_set {l : List Nat} {k j x : Nat} (hk : k < l.length) : (l.set k x).getD j 0 = if j = k then x else l.getD j 0 := by
  simp only [List.getD_eq_getElem?_getD, List.getElem?_set]
  by_cases h : k = j
  · subst h; simp [hk]
  · rw [if_neg h, if_neg (fun e => h e.symm)]
theorem stp_ok {n : Nat} {st : S2} {p : Nat × Nat} (h : OK n st) (hp : p.1 < n) (hv : isnan p.2 = false) : OK n (stp p st) ∧
    ∀ k, k < n → ikey ((stp p st).1.getD k 0) = (if k = p.1 then min (ikey (st.1.getD k 0)) (ikey p.2) else ikey (st.1.getD k 0)) ∧ ikey ((stp p st).2.getD k 0) = (if k = p.1 then max (ikey (st.2.getD k 0)) (ikey p.2) else ikey (st.2.getD k 0)) := by
  have m1 := fpick_min (h.v1 p.1 hp) hv
  have m2 := fpick_max (h.v2 p.1 hp) hv
  have g1 : ∀ k, (stp p st).1.getD k 0 = if k = p.1 then fpick true .lt (st.1.getD p.1 0) p.2 else st.1.getD k 0 := fun k => getD_set (by rw [h.l1]; exact hp)
  have g2 : ∀ k, (stp p st).2.getD k 0 = if k = p.1 then fpick false .gt (st.2.getD p.1 0) p.2 else st.2.getD k 0 := fun k => getD_set (by rw [h.l2]; exact hp)
  refine ⟨⟨by simp [stp, h.l1], by simp [stp, h.l2], fun k hk => ?_, fun k hk => ?_⟩, fun k hk => ⟨?_, ?_⟩⟩
  · rw [g1]; split
    · exact m1.1
    · exact h.v1 k hk
  · rw [g2]; split
    · exact m2.1
    · exact h.v2 k hk
  · rw [g1]; split
    · rename_i e; subst e; exact m1.2
    · rfl
  · rw [g2]; split
    · rename_i e; subst e; exact m2.2
    · rfl
theorem runP_ok {n : Nat} : ∀ (ps : List (Nat × Nat)) {st : S2}, (∀ p ∈ ps, p.1 < n ∧ isnan p.2 = false) → OK n st → OK n (runP ps st) ∧
    (∀ k, k < n → ikey ((runP ps st).1.getD k 0) ≤ ikey (st.1.getD k 0) ∧ ikey (st.2.getD k 0) ≤ ikey ((runP ps st).2.getD k 0)) ∧
    (∀ p ∈ ps, ikey ((runP ps st).1.getD p.1 0) ≤ ikey p.2 ∧ ikey p.2 ≤ ikey ((runP ps st).2.getD p.1 0)) ∧
    ((∀ p ∈ ps, ikey (st.1.getD p.1 0) ≤ ikey p.2 ∧ ikey p.2 ≤ ikey (st.2.getD p.1 0)) → ∀ k, k < n → ikey ((runP ps st).1.getD k 0) = ikey (st.1.getD k 0) ∧ ikey ((runP ps st).2.getD k 0) = ikey (st.2.getD k 0))
  | [], st, hp, h => ⟨h, fun k hk => ⟨Int.le_refl _, Int.le_refl _⟩, fun p hp => by simp at hp, fun _ k hk => ⟨rfl, rfl⟩⟩
  | p :: ps, st, hp, h => by
    obtain ⟨q1, q2⟩ := hp p (by simp)
    obtain ⟨h1, h2⟩ := stp_ok h q1 q2
    obtain ⟨a1, a2, a3, a4⟩ := runP_ok ps (fun p' hp' => hp p' (by simp [hp'])) h1
    have mono : ∀ k, k < n → ikey ((stp p st).1.getD k 0) ≤ ikey (st.1.getD k 0) ∧ ikey (st.2.getD k 0) ≤ ikey ((stp p st).2.getD k 0) := fun k hk => by
      obtain ⟨b1, b2⟩ := h2 k hk
      rw [b1, b2]
      constructor <;> split <;> omega
    refine ⟨a1, fun k hk => ?_, fun p' hp' => ?_, fun hc k hk => ?_⟩
    · have m1 := a2 k hk
      have m2 := mono k hk
      exact ⟨Int.le_trans m1.1 m2.1, Int.le_trans m2.2 m1.2⟩
    · rcases List.mem_cons.1 hp' with e | e
      · subst e
        have m1 := a2 p'.1 q1
        obtain ⟨b1, b2⟩ := h2 p'.1 q1
        rw [if_pos rfl] at b1 b2
        show ikey ((runP ps (stp p' st)).1.getD p'.1 0) ≤ _ ∧ _ ≤ ikey ((runP ps (stp p' st)).2.getD p'.1 0)
        omega
      · exact a3 p' e
    · obtain ⟨c1, c2⟩ := hc p (by simp)
      have same : ∀ k, k < n → ikey ((stp p st).1.getD k 0) = ikey (st.1.getD k 0) ∧ ikey ((stp p st).2.getD k 0) = ikey (st.2.getD k 0) := fun k hk => by
        obtain ⟨b1, b2⟩ := h2 k hk
        rw [b1, b2]
        constructor
        · split
          · rename_i e; subst e; omega
          · rfl
        · split
          · rename_i e; subst e; omega
          · rfl
      have := a4 (fun p' hp' => by
        have q := hc p' (by simp [hp'])
        have s := same p'.1 (hp p' (by simp [hp'])).1
        rw [s.1, s.2]; exact q) k hk
      have s := same k hk
      exact ⟨this.1.trans s.1, this.2.trans s.2⟩
/-- The pairs of axis and number of a row. -/
def pF (ax : Nat → Nat) (s : Nat) (flat : List Nat) (t c : Nat) : List (Nat × Nat) := (List.range' t c).map fun t => (ax (t % s), flat.getD t 0)
theorem pF_app (ax : Nat → Nat) (s : Nat) (flat : List Nat) (t a b : Nat) : pF ax s flat t (a + b) = pF ax s flat t a ++ pF ax s flat (t + a) b := by
  unfold pF
  rw [← List.map_append, List.range'_append_1]
theorem pF_cons (ax : Nat → Nat) (s : Nat) (flat : List Nat) (t c : Nat) : pF ax s flat t (c + 1) = (ax (t % s), flat.getD t 0) :: pF ax s flat (t + 1) c := by
  unfold pF
  rw [List.range'_succ, List.map_cons]
def ax3 (t : Nat) : Nat := if t = 2 then 3 else t
theorem mod_in {i j s : Nat} (hi : i % s = 0) (hj : j < s) : (i + j) % s = j := by
  rw [Nat.add_mod, hi, Nat.zero_add, Nat.mod_mod, Nat.mod_eq_of_lt hj]
theorem getD_at {l : List Nat} {k : Nat} (h : k < l.length) : l[k] = l.getD k 0 := by rw [List.getD_eq_getElem?_getD, List.getElem?_eq_getElem h]; rfl
def cov (ly gl : Int) : Int := if (ly = 2 ∧ gl = 3) ∨ (ly = 3 ∧ (gl = 2 ∨ gl = 4)) then 4 else if ly < gl then gl else ly
def ext (ly gl : Int) (z : Nat) (l : List Nat) : List Nat :=
  if ly = 2 ∧ gl = 3 then l ++ [z] else if ly = 3 ∧ (gl = 2 ∨ gl = 4) then l.take 2 ++ [z, l.getD 2 0] else if ly < gl then l ++ List.replicate (strd gl - strd ly).toNat z else l
theorem strd_mono {ly gl : Int} (hly : 0 ≤ ly ∧ ly ≤ 4) (hgl : 1 ≤ gl ∧ gl ≤ 4) (h : ly < gl) : strd ly ≤ strd gl := by
  have e1 : ly = 0 ∨ ly = 1 ∨ ly = 2 ∨ ly = 3 ∨ ly = 4 := by omega
  have e2 : gl = 1 ∨ gl = 2 ∨ gl = 3 ∨ gl = 4 := by omega
  rcases e1 with rfl | rfl | rfl | rfl | rfl <;> rcases e2 with rfl | rfl | rfl | rfl <;> first | decide | omega
theorem ext_ok {ly gl : Int} {z : Nat} {l : List Nat} (hly : 0 ≤ ly ∧ ly ≤ 4) (hgl : 1 ≤ gl ∧ gl ≤ 4) (hz : isnan z = false) (hl : (l.length : Int) = strd ly) (hv : ∀ k, k < l.length → isnan (l.getD k 0) = false) :
    (ext ly gl z l).length = (strd (cov ly gl)).toNat ∧ ∀ k, k < (ext ly gl z l).length → isnan ((ext ly gl z l).getD k 0) = false := by
  have hv' : ∀ x ∈ l, isnan x = false := fun x hx => by
    obtain ⟨k, hk, rfl⟩ := List.mem_iff_getElem.1 hx
    rw [getD_at hk]; exact hv k hk
  have vv : ∀ {l : List Nat}, (∀ x ∈ l, isnan x = false) → ∀ k, k < l.length → isnan (l.getD k 0) = false := fun h k hk => by
    rw [← getD_at hk]; exact h _ (List.getElem_mem hk)
  unfold ext
  split
  · rename_i h
    refine ⟨?_, vv fun x hx => ?_⟩
    · obtain ⟨rfl, rfl⟩ := h
      simp [strd, cov] at hl ⊢; omega
    · rcases List.mem_append.1 hx with e | e
      · exact hv' x e
      · rw [List.mem_singleton.1 e]; exact hz
  · rename_i h0
    split
    · rename_i h
      have h3 : l.length = 3 := by rw [h.1] at hl; simp [strd] at hl; omega
      refine ⟨?_, vv fun x hx => ?_⟩
      · have : cov ly gl = 4 := by unfold cov; rw [if_pos (.inr h)]
        rw [this]; simp [strd, h3]
      · rcases List.mem_append.1 hx with e | e
        · exact hv' x (List.mem_of_mem_take e)
        · simp only [List.mem_cons, List.not_mem_nil, or_false] at e
          rcases e with rfl | rfl
          · exact hz
          · exact hv 2 (by omega)
    · rename_i h1
      have hc : cov ly gl = if ly < gl then gl else ly := by unfold cov; rw [if_neg (fun h => by rcases h with h | h; exact h0 h; exact h1 h)]
      split
      · rename_i h
        rw [if_pos h] at hc
        refine ⟨?_, vv fun x hx => ?_⟩
        · rw [hc, List.length_append, List.length_replicate]
          have a := strd_nn ly
          have b := strd_mono hly hgl h
          omega
        · rcases List.mem_append.1 hx with e | e
          · exact hv' x e
          · rw [List.eq_of_mem_replicate e]; exact hz
      · rename_i h
        rw [if_neg h] at hc
        exact ⟨by rw [hc]; omega, hv⟩
theorem cov_facts {ly gl : Int} (hly : 0 ≤ ly ∧ ly ≤ 4) (hgl : 1 ≤ gl ∧ gl ≤ 4) : 0 ≤ cov ly gl ∧ cov ly gl ≤ 4 ∧ strd gl ≤ strd (cov ly gl) ∧ cov (cov ly gl) gl = cov ly gl ∧ ∀ z l, ext (cov ly gl) gl z l = l := by
  have e1 : ly = 0 ∨ ly = 1 ∨ ly = 2 ∨ ly = 3 ∨ ly = 4 := by omega
  have e2 : gl = 1 ∨ gl = 2 ∨ gl = 3 ∨ gl = 4 := by omega
  rcases e1 with rfl | rfl | rfl | rfl | rfl <;> rcases e2 with rfl | rfl | rfl | rfl <;> simp [cov, ext, strd]
section
variable {N : Nat} (hN : 0 < N) (hNl : 9223372036854775808 ≤ N)
include hN hNl
theorem intss_loop (l : List (List Int)) (hl : l.length * 24 ≤ 140737488355328) (hin : ∀ x ∈ l, x.length * 8 ≤ 140737488355328) : ∀ (c i n : Nat), i + c = l.length → c + 1 ≤ n →
    impl_intss_l0 N n l (i : Int) (l.take i) = some (l, ())
  | 0, i, n, hi, hn => by
    obtain ⟨n, rfl⟩ : ∃ m, n = m + 1 := ⟨n - 1, by omega⟩
    simp only [impl_intss_l0, impl_intss_g0]
    have : decide ((i : Int) < (l.length : Int)) = false := by simp only [decide_eq_false_iff_not]; omega
    rw [this, cond_false, List.take_of_length_le (by omega)]
  | c + 1, i, n, hi, hn => by
    obtain ⟨n, rfl⟩ : ∃ m, n = m + 1 := ⟨n - 1, by omega⟩
    have hlt : i < l.length := by omega
    have ih := intss_loop l hl hin c (i + 1) n (by omega) (by omega)
    simp only [impl_intss_l0, impl_intss_g0]
    have : decide ((i : Int) < (l.length : Int)) = true := by simp only [decide_eq_true_eq]; omega
    rw [this, cond_true, nth_get hlt]
    simp only [Option.bind_some, impl_ints, impl_ints_g]
    rw [lim_le (hin _ (List.getElem_mem hlt))]
    simp only [Option.bind_some]
    rw [lim_le (by simp only [List.length_take, List.length_cons, List.length_nil]; omega), succ_in hlt (by omega)]
    simp only [Option.bind_some]
    rw [← ih, take_snoc hlt]
theorem intss (l : List (List Int)) (hl : l.length * 24 ≤ 140737488355328) (hin : ∀ x ∈ l, x.length * 8 ≤ 140737488355328) : impl_intss N l = some (l, ()) := by
  unfold impl_intss impl_intss_g
  exact intss_loop hN hNl l hl hin l.length 0 N (by omega) (by omega)
theorem bBox1 (b : Bx) (h1 : b.2.1.length ≤ 2147483647) (h2 : b.2.2.1.length ≤ 2147483647) : ∃ t, laws_bBox N [b] = some t ∧ (t = true → 0 ≤ b.1 ∧ (b.2.1.length : Int) = strd b.1 ∧ b.2.2.1.length = b.2.1.length ∧ ∀ j, j < b.2.1.length → ∃ x y, b.2.1[j]? = some x ∧ b.2.2.1[j]? = some y ∧ isnan x = false ∧ isnan y = false) := by
  obtain ⟨n, hn⟩ : ∃ m, N = m + 1 := ⟨N - 1, by omega⟩
  unfold laws_bBox laws_bBox_g
  rw [show laws_bBox_l0 N N = laws_bBox_l0 N (n + 1) by rw [← hn]]
  have fin : laws_bBox_l0 N n [b] 1 = some true := by
    obtain ⟨k, rfl⟩ : ∃ k, n = k + 1 := ⟨n - 1, by omega⟩
    simp only [laws_bBox_l0, laws_bBox_g0, Bool.cond_decide]
    rw [if_neg (by simp)]
  simp only [laws_bBox_l0, laws_bBox_g0, laws_bBox_j1, laws_bBox_g1, gate_pos hN, Bool.cond_decide]
  rw [if_pos (by simp), show nth [b] 0 = some b from rfl]
  simp only [Option.bind_some, stride_spec]
  by_cases a1 : b.1 < 0
  · rw [if_pos a1]; exact ⟨_, rfl, fun h => by cases h⟩
  rw [if_neg a1]
  by_cases a2 : b.1 > 9
  · rw [if_pos a2]; exact ⟨_, rfl, fun h => by cases h⟩
  rw [if_neg a2]
  cases a3 : ((b.2.1.length : Int) != strd b.1) with
  | true => exact ⟨_, rfl, fun h => by cases h⟩
  | false =>
    simp only [cond_false]
    cases a4 : ((b.2.2.1.length : Int) != (b.2.1.length : Int)) with
    | true => exact ⟨_, rfl, fun h => by cases h⟩
    | false =>
      simp only [cond_false]
      have a5 : b.2.2.1.length = b.2.1.length := by simp at a4; omega
      have a6 : (b.2.1.length : Int) = strd b.1 := by simpa using a3
      rcases stateLoop0 (xs := b.2.1) (L := fun m i (_ : Unit) => laws_bBox_l2 N (laws_bBox_l0 N n [b]) [b] m 0 b i) (e := fun o => o = some false) (fin := fun _ => some true) (fun i _ => ∀ j, j < i → ∃ x y, b.2.1[j]? = some x ∧ b.2.2.1[j]? = some y ∧ isnan x = false ∧ isnan y = false)
        (fun m _ _ => by
          simp only [laws_bBox_l2, laws_bBox_g2, Bool.cond_decide]
          rw [if_neg (by omega), show IntKind.i64.wrap (0 + 1) = 1 by decide, fin])
        (fun m i _ hi hP => by
          simp only [laws_bBox_l2, laws_bBox_g2, Bool.cond_decide, laws_gNumber, laws_gNumber_g, feq_self]
          rw [if_pos (by omega), nth_get hi, nth_get (show i < b.2.2.1.length by omega), succ_in hi (by omega)]
          simp only [Option.bind_some]
          cases e1 : isnan b.2.1[i] with
          | true => exact .inl rfl
          | false =>
            cases e2 : isnan (b.2.2.1[i]) with
            | true => exact .inl rfl
            | false =>
              refine .inr ⟨(), rfl, fun j hj => ?_⟩
              rcases Nat.lt_or_ge j i with h | h
              · exact hP j h
              · obtain rfl : j = i := by omega
                exact ⟨_, _, List.getElem?_eq_getElem hi, List.getElem?_eq_getElem (by omega), e1, e2⟩) N () (by omega) (fun j hj => by omega) with h | ⟨_, h, hP⟩
      · exact ⟨false, h, fun h => by cases h⟩
      · exact ⟨true, h, fun _ => ⟨by omega, a6, a5, hP⟩⟩
theorem geom_eq (g : Geo) : impl_geometry N N g = impl_geometry_g N (impl_geometry N (N - 1)) g (impl_geometry_l0 N (impl_geometry N (N - 1)) N) := by
  obtain ⟨M, rfl⟩ : ∃ M, N = M + 1 := ⟨N - 1, by omega⟩
  rfl
omit hN hNl in
theorem agree_same {R : Type} {x : Option R} {z : Option R} (h : z = x) : agree z x = x := by unfold agree; rw [if_pos h]; exact h
/-- The ends of a multi point stay. -/
theorem mp_flat {ly s sr : Int} {flat : List Nat} {ends : List Int} (h1 : 1 ≤ ly) (hs : strd ly = s) (h0 : 0 < s) (hc : Chain s 0 ends flat.length) :
    gogeom_NewMultiPointFlat_b N ly flat (((ends, ()), ()), ()) = some ((ly, s, flat, 0, ends, ()), (((ends, ()), ()), ()), ()) := by
  obtain ⟨M, hM⟩ : ∃ M, N = M + 2 := ⟨N - 2, by omega⟩
  unfold gogeom_NewMultiPointFlat_b gogeom_NewMultiPointFlat_b_g
  rw [stride_geom N ly h1, hs]
  simp only [Option.bind_some]
  have e1 : gogeom_NewMultiPointFlat_b_l0 N N flat 0 ly s flat 0 [] ends = gogeom_NewMultiPointFlat_b_l0 N (M + 1) flat 1 ly s flat 0 ends ends := by
    conv => lhs; arg 2; rw [hM]
    simp only [gogeom_NewMultiPointFlat_b_l0, gogeom_NewMultiPointFlat_b_g0, Bool.cond_decide, gogeom_NewMultiPointFlatOptionWithEnds_1_e, gogeom_NewMultiPointFlatOptionWithEnds_1_e_g]
    rw [if_pos (by omega), if_pos (by rfl)]
    simp only [Option.bind_some]
    rw [wrap_in (by omega)]
    rfl
  rw [e1]
  have j4 : gogeom_NewMultiPointFlat_b_j4 N ly s flat 0 ends ends = some ((ly, s, flat, 0, ends, ()), (((ends, ()), ()), ()), ()) := by
    unfold gogeom_NewMultiPointFlat_b_j4 gogeom_NewMultiPointFlat_b_g4
    rw [gate_pos hN]
  have j1 : gogeom_NewMultiPointFlat_b_j1 N flat ly s flat 0 ends ends = some ((ly, s, flat, 0, ends, ()), (((ends, ()), ()), ()), ()) := by
    unfold gogeom_NewMultiPointFlat_b_j1 gogeom_NewMultiPointFlat_b_g1
    rw [gate_pos hN, j4]
  unfold gogeom_NewMultiPointFlat_b_l0 gogeom_NewMultiPointFlat_b_g0
  rw [Bool.cond_decide, if_neg (by omega)]
  cases hb : Nat.ble 1 ends.length with
  | true => rw [cond_true, j1]
  | false =>
    have he : ends = [] := by
      have : ¬ 1 ≤ ends.length := fun h => by rw [Nat.ble_eq_true_of_le h] at hb; cases hb
      exact List.length_eq_zero_iff.1 (by omega)
    subst he
    simp only [Chain] at hc
    rw [cond_false, j1]
    refine agree_same ?_
    rw [gate_pos hN, Bool.cond_decide, if_neg (by omega), j4]
theorem inf1 : math_Inf N 1 = some INF := by
  simp only [math_Inf, math_Inf_g, math_Inf_j0, math_Inf_g0, gate_pos hN, math_Float64frombits]
  rfl
theorem inf2 : math_Inf N (-1) = some NINF := by
  simp only [math_Inf, math_Inf_g, math_Inf_j0, math_Inf_g0, gate_pos hN, math_Float64frombits]
  rfl
theorem stride_loop {ly : Int} {x y : List Nat} : ∀ (c j n : Nat) (mn mx : List Nat), j + c ≤ 100 → mn.length ≤ 200 - c → mx.length ≤ 200 - c → c + 1 ≤ n →
    gogeom_Bounds_extendStride_l0 N n ((j + c : Nat) : Int) (ly, x, y, ()) (j : Int) mn mx = some ((ly, mn ++ List.replicate c INF, mx ++ List.replicate c NINF, ()), ())
  | 0, j, n, mn, mx, hj, h1, h2, hn => by
    obtain ⟨n, rfl⟩ : ∃ m, n = m + 1 := ⟨n - 1, by omega⟩
    simp only [gogeom_Bounds_extendStride_l0, gogeom_Bounds_extendStride_g0, Bool.cond_decide]
    rw [if_neg (by omega)]
    simp
  | c + 1, j, n, mn, mx, hj, h1, h2, hn => by
    obtain ⟨n, rfl⟩ : ∃ m, n = m + 1 := ⟨n - 1, by omega⟩
    have ih := stride_loop (ly := ly) (x := x) (y := y) c (j + 1) n (mn ++ [INF]) (mx ++ [NINF]) (by omega) (by simp; omega) (by simp; omega) (by omega)
    simp only [gogeom_Bounds_extendStride_l0, gogeom_Bounds_extendStride_g0, Bool.cond_decide]
    rw [if_pos (by omega), inf1 hN hNl]
    simp only [Option.bind_some]
    rw [lim_le (by simp; omega), inf2 hN hNl]
    simp only [Option.bind_some]
    rw [lim_le (by simp; omega)]
    simp only [Option.bind_some]
    rw [wrap_in (n := (j : Int) + 1) (by omega), show (j : Int) + 1 = ((j + 1 : Nat) : Int) by omega, show (j + (c + 1)) = j + 1 + c by omega, ih]
    simp [List.replicate_succ, List.append_assoc]
theorem stride_geom0 {l : Int} (h : 0 ≤ l) : gogeom_Layout_Stride N l = some (strd l) := by
  rcases Int.lt_or_le 0 l with h1 | h1
  · exact stride_geom N l (by omega)
  · have : l = 0 := by omega
    subst this; rfl
theorem stride_up {ly : Int} {s : Int} {mn mx : List Nat} (h0 : 0 ≤ ly) (hs : strd ly ≤ s) (hs9 : s ≤ 100) (h1 : mn.length ≤ 100) (h2 : mx.length ≤ 100) :
    gogeom_Bounds_extendStride N (ly, mn, mx, ()) s = some ((ly, mn ++ List.replicate (s - strd ly).toNat INF, mx ++ List.replicate (s - strd ly).toNat NINF, ()), ()) := by
  unfold gogeom_Bounds_extendStride gogeom_Bounds_extendStride_g
  rw [stride_geom0 hN hNl h0]
  simp only [Option.bind_some]
  have a := strd_nn ly
  have := stride_loop hN hNl (ly := ly) (x := mn) (y := mx) (s - strd ly).toNat (strd ly).toNat N mn mx (by omega) (by omega) (by omega) (by omega)
  rw [show (((strd ly).toNat + (s - strd ly).toNat : Nat) : Int) = s by omega, show (((strd ly).toNat : Nat) : Int) = strd ly by omega] at this
  exact this
theorem stride_stay {ly : Int} {s : Int} {mn mx : List Nat} (h0 : 0 ≤ ly) (hs : s ≤ strd ly) : gogeom_Bounds_extendStride N (ly, mn, mx, ()) s = some ((ly, mn, mx, ()), ()) := by
  obtain ⟨n, hn⟩ : ∃ m, N = m + 1 := ⟨N - 1, by omega⟩
  unfold gogeom_Bounds_extendStride gogeom_Bounds_extendStride_g
  rw [stride_geom0 hN hNl h0]
  simp only [Option.bind_some]
  conv => lhs; arg 2; rw [hn]
  simp only [gogeom_Bounds_extendStride_l0, gogeom_Bounds_extendStride_g0, Bool.cond_decide]
  rw [if_neg (by omega)]
theorem layout_eq {ly gl : Int} {mn mx : List Nat} (hly : 0 ≤ ly ∧ ly ≤ 4) (hgl : 1 ≤ gl ∧ gl ≤ 4) (h1 : (mn.length : Int) = strd ly) (h2 : (mx.length : Int) = strd ly) :
    gogeom_Bounds_extendLayout N (ly, mn, mx, ()) gl = some ((cov ly gl, ext ly gl INF mn, ext ly gl NINF mx, ()), ()) := by
  have e1 : ly = 0 ∨ ly = 1 ∨ ly = 2 ∨ ly = 3 ∨ ly = 4 := by omega
  have e2 : gl = 1 ∨ gl = 2 ∨ gl = 3 ∨ gl = 4 := by omega
  have hb : strd ly ≤ 4 := by unfold strd; repeat' split
                              all_goals omega
  have up : ly < gl → strd ly ≤ strd gl → ((gogeom_Layout_Stride N gl).bind fun v21 => (gogeom_Bounds_extendStride N (ly, mn, mx, ()) v21).bind fun v22 => (some ((gl, v22.1.2.1, v22.1.2.2.1, ()), ()))) = some ((gl, mn ++ List.replicate (strd gl - strd ly).toNat INF, mx ++ List.replicate (strd gl - strd ly).toNat NINF, ()), ()) := by
    intro _ hs
    have hb2 : strd gl ≤ 4 := by unfold strd; repeat' split
                                 all_goals omega
    rw [stride_geom0 hN hNl (by omega)]
    simp only [Option.bind_some]
    rw [stride_up hN hNl hly.1 hs (by omega) (by omega) (by omega)]
    rfl
  have ins : ly = 3 → ((chk2 0 2 mn.length).bind fun v5 => (math_Inf N 1).bind fun v6 => (chk 2 mn.length).bind fun v7 => (mn[v7]?).bind fun v8 => (bif (Nat.beq v5.1 0 && Nat.ble 1 (v5.2 - v5.1)) then ((lim (((mn.take (v5.2 - v5.1)).length + ([v6, v8] : List Nat).length) * 8)).bind fun _ => ((chk2 0 2 mx.length).bind fun v9 => (math_Inf N (-1)).bind fun v10 => (chk 2 mx.length).bind fun v11 => (mx[v11]?).bind fun v12 => (bif (Nat.beq v9.1 0 && Nat.ble 1 (v9.2 - v9.1)) then ((lim (((mx.take (v9.2 - v9.1)).length + ([v10, v12] : List Nat).length) * 8)).bind fun _ => (some (((4 : Int), ((mn.take (v5.2 - v5.1)) ++ ([v6, v8] : List Nat)), ((mx.take (v9.2 - v9.1)) ++ ([v10, v12] : List Nat)), ()), ()))) else none))) else none)) = some (((4 : Int), mn.take 2 ++ [INF, mn.getD 2 0], mx.take 2 ++ [NINF, mx.getD 2 0], ()), ()) := by
    intro e
    subst e
    have s3 : strd 3 = 3 := by decide
    rw [s3] at h1 h2
    have k1 : 2 < mn.length := by omega
    have k2 : 2 < mx.length := by omega
    rw [chk2_int (by omega), inf1 hN hNl, inf2 hN hNl, show (2 : Int) = ((2 : Nat) : Int) from rfl, chk_nat k1]
    simp only [Option.bind_some]
    rw [List.getElem?_eq_getElem k1]
    simp only [Option.bind_some]
    rw [show (Nat.beq (0 : Int).toNat 0 && Nat.ble 1 (((2 : Nat) : Int).toNat - (0 : Int).toNat)) = true from rfl, cond_true, lim_le (by simp; omega)]
    simp only [Option.bind_some]
    rw [chk2_int (by omega), chk_nat k2]
    simp only [Option.bind_some]
    rw [List.getElem?_eq_getElem k2]
    simp only [Option.bind_some]
    rw [show (Nat.beq (0 : Int).toNat 0 && Nat.ble 1 (((2 : Nat) : Int).toNat - (0 : Int).toNat)) = true from rfl, cond_true, lim_le (by simp; omega)]
    simp only [Option.bind_some]
    rw [getD_at k1, getD_at k2]
    rfl
  have app : ((math_Inf N 1).bind fun v3 => (lim ((mn.length + ([v3] : List Nat).length) * 8)).bind fun _ => ((math_Inf N (-1)).bind fun v4 => (lim ((mx.length + ([v4] : List Nat).length) * 8)).bind fun _ => (some (((4 : Int), (mn ++ ([v3] : List Nat)), (mx ++ ([v4] : List Nat)), ()), ())))) = some (((4 : Int), mn ++ [INF], mx ++ [NINF], ()), ()) := by
    rw [inf1 hN hNl, inf2 hN hNl]
    simp only [Option.bind_some]
    rw [lim_le (by simp; omega), lim_le (by simp; omega)]
    rfl
  unfold gogeom_Bounds_extendLayout gogeom_Bounds_extendLayout_g
  rcases e1 with rfl | rfl | rfl | rfl | rfl <;> rcases e2 with rfl | rfl | rfl | rfl <;>
    simp only [show ((0 : Int) == 2) = false from rfl, show ((0 : Int) == 3) = false from rfl, show ((0 : Int) == 4) = false from rfl, show ((1 : Int) == 2) = false from rfl, show ((1 : Int) == 3) = false from rfl, show ((1 : Int) == 4) = false from rfl, show ((2 : Int) == 2) = true from rfl, show ((2 : Int) == 3) = false from rfl, show ((2 : Int) == 4) = false from rfl, show ((3 : Int) == 2) = false from rfl, show ((3 : Int) == 3) = true from rfl, show ((3 : Int) == 4) = false from rfl, show ((4 : Int) == 2) = false from rfl, show ((4 : Int) == 3) = false from rfl, show ((4 : Int) == 4) = true from rfl, show decide ((0 : Int) < 1) = true from rfl, show decide ((0 : Int) < 2) = true from rfl, show decide ((0 : Int) < 3) = true from rfl, show decide ((0 : Int) < 4) = true from rfl, show decide ((1 : Int) < 1) = false from rfl, show decide ((1 : Int) < 2) = true from rfl, show decide ((1 : Int) < 3) = true from rfl, show decide ((1 : Int) < 4) = true from rfl, show decide ((2 : Int) < 1) = false from rfl, show decide ((2 : Int) < 2) = false from rfl, show decide ((2 : Int) < 3) = true from rfl, show decide ((2 : Int) < 4) = true from rfl, show decide ((3 : Int) < 1) = false from rfl, show decide ((3 : Int) < 2) = false from rfl, show decide ((3 : Int) < 3) = false from rfl, show decide ((3 : Int) < 4) = true from rfl, show decide ((4 : Int) < 1) = false from rfl, show decide ((4 : Int) < 2) = false from rfl, show decide ((4 : Int) < 3) = false from rfl, show decide ((4 : Int) < 4) = false from rfl, cond_true, cond_false] <;>
    first
    | (rw [up (by decide) (by decide)]; rfl)
    | (rw [ins rfl]; rfl)
    | (rw [app]; rfl)
    | rfl
section
variable {flat : List Nat} {s : Nat} {v6 : (Int × List Nat × List Nat × Unit) × Unit}
theorem flat_in {r0 : Int → List Nat → List Nat → Option (Unit × (Int × List Nat × List Nat × Unit) × Unit)} {i m : Nat} (hs : s ≤ m) (hm : i % s = 0) (hi : i + s ≤ flat.length) (hf : flat.length ≤ 2147483647) (hv : ∀ k, k < flat.length → isnan (flat.getD k 0) = false) : ∀ (c j n : Nat) (st : S2), j + c = s → c + 1 ≤ n → OK m st →
    gogeom_Bounds_extendFlatCoords_l1 N r0 flat (flat.length : Int) (s : Int) v6 n (i : Int) (j : Int) st.1 st.2 = r0 ((i + s : Nat) : Int) (runP (pF id s flat (i + j) c) st).1 (runP (pF id s flat (i + j) c) st).2
  | 0, j, n, st, hj, hn, hok => by
    obtain ⟨n, rfl⟩ : ∃ m, n = m + 1 := ⟨n - 1, by omega⟩
    simp only [gogeom_Bounds_extendFlatCoords_l1, gogeom_Bounds_extendFlatCoords_g1, Bool.cond_decide]
    rw [if_neg (by omega), wrap_in (n := (i : Int) + (s : Int)) (by omega)]
    rfl
  | c + 1, j, n, st, hj, hn, hok => by
    obtain ⟨n, rfl⟩ : ∃ m, n = m + 1 := ⟨n - 1, by omega⟩
    have k1 : j < st.1.length := by rw [hok.l1]; omega
    have k2 : j < st.2.length := by rw [hok.l2]; omega
    have hfl : i + j < flat.length := by omega
    have hq := (stp_ok (p := (id ((i + j) % s), flat.getD (i + j) 0)) hok (by simp only [id]; rw [mod_in hm (by omega)]; omega) (hv _ hfl)).1
    rw [pF_cons]
    have ih := flat_in (r0 := r0) hs hm hi hf hv c (j + 1) n (stp (id ((i + j) % s), flat.getD (i + j) 0) st) (by omega) (by omega) hq
    simp only [gogeom_Bounds_extendFlatCoords_l1, gogeom_Bounds_extendFlatCoords_g1, Bool.cond_decide]
    rw [if_pos (by omega), chk_nat k1]
    simp only [Option.bind_some]
    rw [List.getElem?_eq_getElem k1]
    simp only [Option.bind_some]
    rw [wrap_in (n := (i : Int) + (j : Int)) (by omega), show (i : Int) + (j : Int) = ((i + j : Nat) : Int) from rfl, nth_nat, List.getElem?_eq_getElem hfl]
    simp only [Option.bind_some, math_Min, math_Min_g, math_archMin, math_Max, math_Max_g, math_archMax]
    rw [chk_nat k2]
    simp only [Option.bind_some]
    rw [List.getElem?_eq_getElem k2]
    simp only [Option.bind_some]
    rw [wrap_in (n := (j : Int) + 1) (by omega), show (j : Int) + 1 = ((j + 1 : Nat) : Int) by omega, getD_at k1, getD_at k2, getD_at hfl]
    refine Eq.trans ?_ ih
    simp only [stp, id, mod_in hm (show j < s by omega)]
theorem flat_out {m : Nat} (hs : s ≤ m) (h0 : 0 < s) (hf : flat.length ≤ 2147483647) (hv : ∀ k, k < flat.length → isnan (flat.getD k 0) = false) : ∀ (q i n : Nat) (st : S2), i + q * s = flat.length → i % s = 0 → q + 1 ≤ n → OK m st →
    gogeom_Bounds_extendFlatCoords_l0 N n flat (flat.length : Int) (s : Int) v6 (i : Int) st.1 st.2 = some ((), (v6.1.1, (runP (pF id s flat i (q * s)) st).1, (runP (pF id s flat i (q * s)) st).2, ()), ())
  | 0, i, n, st, hi, hm, hn, hok => by
    obtain ⟨n, rfl⟩ : ∃ m, n = m + 1 := ⟨n - 1, by omega⟩
    simp only [gogeom_Bounds_extendFlatCoords_l0, gogeom_Bounds_extendFlatCoords_g0, Bool.cond_decide]
    rw [if_neg (by omega), Nat.zero_mul]
    rfl
  | q + 1, i, n, st, hi, hm, hn, hok => by
    obtain ⟨n, rfl⟩ : ∃ m, n = m + 1 := ⟨n - 1, by omega⟩
    have e : (q + 1) * s = s + q * s := by rw [Nat.succ_mul, Nat.add_comm]
    rw [e] at hi
    have hin := flat_in hN hNl (v6 := v6) (r0 := gogeom_Bounds_extendFlatCoords_l0 N n flat (flat.length : Int) (s : Int) v6) hs hm (by omega) hf hv s 0 N st (by omega) (by omega) hok
    have hq := (runP_ok (n := m) (pF id s flat i s) (fun p hp => by
      unfold pF at hp
      obtain ⟨t, ht, rfl⟩ := List.mem_map.1 hp
      rw [List.mem_range'_1] at ht
      exact ⟨Nat.lt_of_lt_of_le (Nat.mod_lt _ h0) hs, hv t (by omega)⟩) hok).1
    have ih := flat_out hs h0 hf hv q (i + s) n (runP (pF id s flat i s) st) (by omega) (by rw [Nat.add_mod_right]; exact hm) (by omega) hq
    simp only [gogeom_Bounds_extendFlatCoords_l0, gogeom_Bounds_extendFlatCoords_g0, Bool.cond_decide]
    rw [if_pos (by omega), show (0 : Int) = ((0 : Nat) : Int) from rfl, hin, Nat.add_zero, ih, e, pF_app, runP_append]
end
theorem xym_out {flat : List Nat} {v1 : Int × List Nat × List Nat × Unit} (hf : flat.length ≤ 2147483647) (hv : ∀ k, k < flat.length → isnan (flat.getD k 0) = false) : ∀ (q i n : Nat) (st : S2), i + q * 3 = flat.length → i % 3 = 0 → q + 1 ≤ n → OK 4 st →
    gogeom_Bounds_extendXYZMFlatCoordsWithXYM_l0 N n flat (flat.length : Int) v1 (i : Int) st.1 st.2 = some ((), (v1.1, (runP (pF ax3 3 flat i (q * 3)) st).1, (runP (pF ax3 3 flat i (q * 3)) st).2, ()), ())
  | 0, i, n, st, hi, hm, hn, hok => by
    obtain ⟨n, rfl⟩ : ∃ m, n = m + 1 := ⟨n - 1, by omega⟩
    simp only [gogeom_Bounds_extendXYZMFlatCoordsWithXYM_l0, gogeom_Bounds_extendXYZMFlatCoordsWithXYM_g0, Bool.cond_decide]
    rw [if_neg (by omega), Nat.zero_mul]
    rfl
  | q + 1, i, n, st, hi, hm, hn, hok => by
    obtain ⟨n, rfl⟩ : ∃ m, n = m + 1 := ⟨n - 1, by omega⟩
    have e : (q + 1) * 3 = 2 + 1 + q * 3 := by omega
    have f0 : i < flat.length := by omega
    have f1 : i + 1 < flat.length := by omega
    have f2 : i + 2 < flat.length := by omega
    have hall : ∀ p ∈ pF ax3 3 flat i 3, p.1 < 4 ∧ isnan p.2 = false := fun p hp => by
      unfold pF at hp
      obtain ⟨t, ht, rfl⟩ := List.mem_map.1 hp
      rw [List.mem_range'_1] at ht
      refine ⟨?_, hv t (by omega)⟩
      have := Nat.mod_lt t (show 0 < 3 by decide)
      simp only [ax3]; split <;> omega
    have hq := (runP_ok (n := 4) (pF ax3 3 flat i 3) hall hok).1
    have ih := xym_out (v1 := v1) hf hv q (i + 3) n (runP (pF ax3 3 flat i 3) st) (by omega) (by omega) (by omega) hq
    have hp3 : pF ax3 3 flat i 3 = [(0, flat.getD i 0), (1, flat.getD (i + 1) 0), (3, flat.getD (i + 2) 0)] := by
      have m0 : i % 3 = 0 := hm
      have m1 : (i + 1) % 3 = 1 := by omega
      have m2 : (i + 2) % 3 = 2 := by omega
      show [(ax3 (i % 3), flat.getD i 0), (ax3 ((i + 1) % 3), flat.getD (i + 1) 0), (ax3 ((i + 1 + 1) % 3), flat.getD (i + 1 + 1) 0)] = _
      rw [m0, m1, show i + 1 + 1 = i + 2 from rfl, m2]; rfl
    rw [e, pF_app, runP_append]
    obtain ⟨mn, mx⟩ := st
    have l1 := hok.l1
    have l2 := hok.l2
    obtain ⟨a0, a1, a2, a3, rfl⟩ : ∃ a0 a1 a2 a3, mn = [a0, a1, a2, a3] := by
      match mn, l1 with
      | [a0, a1, a2, a3], _ => exact ⟨_, _, _, _, rfl⟩
    obtain ⟨b0, b1, b2, b3, rfl⟩ : ∃ b0 b1 b2 b3, mx = [b0, b1, b2, b3] := by
      match mx, l2 with
      | [b0, b1, b2, b3], _ => exact ⟨_, _, _, _, rfl⟩
    refine Eq.trans ?_ ih
    rw [hp3]
    have w0 : IntKind.i64.wrap ((i : Int) + 0) = ((i : Nat) : Int) := by rw [wrap_in (by omega)]; omega
    have w1 : IntKind.i64.wrap ((i : Int) + 1) = ((i + 1 : Nat) : Int) := by rw [wrap_in (by omega)]; omega
    have w2 : IntKind.i64.wrap ((i : Int) + 2) = ((i + 2 : Nat) : Int) := by rw [wrap_in (by omega)]; omega
    have w3 : IntKind.i64.wrap ((i : Int) + 3) = ((i + 3 : Nat) : Int) := by rw [wrap_in (by omega)]; omega
    have c0 : ∀ (a b c d : Nat), chk 0 [a, b, c, d].length = some 0 := fun a b c d => chk_nat (i := 0) (by simp)
    have c1 : ∀ (a b c d : Nat), chk 1 [a, b, c, d].length = some 1 := fun a b c d => chk_nat (i := 1) (by simp)
    have c3 : ∀ (a b c d : Nat), chk 3 [a, b, c, d].length = some 3 := fun a b c d => chk_nat (i := 3) (by simp)
    simp only [gogeom_Bounds_extendXYZMFlatCoordsWithXYM_l0, gogeom_Bounds_extendXYZMFlatCoordsWithXYM_g0, Bool.cond_decide]
    rw [if_pos (by omega)]
    simp only [w0, w1, w2, w3, nth_nat, List.getElem?_eq_getElem f0, List.getElem?_eq_getElem f1, List.getElem?_eq_getElem f2, c0, c1, c3, Option.bind_some, math_Min, math_Min_g, math_archMin, math_Max, math_Max_g, math_archMax, List.getElem?_cons_zero, List.getElem?_cons_succ, List.set_cons_zero, List.set_cons_succ,
      getD_at f0, getD_at f1, getD_at f2]
    rfl
/-- The pairs of a geometry's row. -/
def prs (L gl : Int) (flat : List Nat) : List (Nat × Nat) := if L = 4 ∧ gl = 3 then pF ax3 3 flat 0 flat.length else pF id (strd gl).toNat flat 0 flat.length
theorem prs_ok {ly gl : Int} {flat : List Nat} (hly : 0 ≤ ly ∧ ly ≤ 4) (hgl : 1 ≤ gl ∧ gl ≤ 4) (hv : ∀ k, k < flat.length → isnan (flat.getD k 0) = false) : ∀ p ∈ prs (cov ly gl) gl flat, p.1 < (strd (cov ly gl)).toNat ∧ isnan p.2 = false := by
  intro p hp
  obtain ⟨f1, f2, f3, f4, f5⟩ := cov_facts hly hgl
  have hs := strd_le (l := gl) (by omega)
  unfold prs at hp
  split at hp
  · rename_i h
    unfold pF at hp
    obtain ⟨t, ht, rfl⟩ := List.mem_map.1 hp
    rw [List.mem_range'_1] at ht
    refine ⟨?_, hv t (by omega)⟩
    have := Nat.mod_lt t (show 0 < 3 by decide)
    rw [h.1]
    show ax3 (t % 3) < 4
    unfold ax3; split <;> omega
  · unfold pF at hp
    obtain ⟨t, ht, rfl⟩ := List.mem_map.1 hp
    rw [List.mem_range'_1] at ht
    refine ⟨?_, hv t (by omega)⟩
    have := Nat.mod_lt t (show 0 < (strd gl).toNat by omega)
    show t % (strd gl).toNat < _
    omega
section
variable {ly gl s : Int} {mn mx flat : List Nat} (hly : 0 ≤ ly ∧ ly ≤ 4) (hgl : 1 ≤ gl ∧ gl ≤ 4) (hst : strd gl = s) (hw : s ∣ (flat.length : Int)) (hf : flat.length ≤ 2147483647) (hv : ∀ k, k < flat.length → isnan (flat.getD k 0) = false)
include hly hgl hst hw hf hv
theorem flat_eq (hc : ¬ (ly = 4 ∧ gl = 3)) (hle : s ≤ strd ly) (hok : OK (strd ly).toNat (mn, mx)) : gogeom_Bounds_extendFlatCoords N (ly, mn, mx, ()) flat 0 (flat.length : Int) s = some ((), (ly, (runP (prs ly gl flat) (mn, mx)).1, (runP (prs ly gl flat) (mn, mx)).2, ()), ()) := by
  have hs := strd_le (l := gl) (by omega)
  rw [hst] at hs
  obtain ⟨q, hq⟩ := hw
  have q0 : 0 ≤ q := by
    refine Int.not_lt.1 fun h => ?_
    have : s * q < 0 := Int.mul_neg_of_pos_of_neg (by omega) h
    omega
  obtain ⟨S, rfl⟩ := Int.eq_ofNat_of_zero_le (show 0 ≤ s by omega)
  obtain ⟨Q, rfl⟩ := Int.eq_ofNat_of_zero_le q0
  have hqq : 0 + Q * S = flat.length := by
    have : (flat.length : Int) = ((S * Q : Nat) : Int) := by rw [hq]; rfl
    have := Int.ofNat.inj this
    rw [Nat.zero_add, Nat.mul_comm]; exact this.symm
  have hQ : Q ≤ flat.length := by
    have : Q * 1 ≤ Q * S := Nat.mul_le_mul_left _ (by omega)
    omega
  unfold gogeom_Bounds_extendFlatCoords gogeom_Bounds_extendFlatCoords_g
  rw [stride_stay hN hNl hly.1 hle]
  simp only [Option.bind_some]
  have := flat_out hN hNl (v6 := ((ly, mn, mx, ()), ())) (m := (strd ly).toNat) (by omega) (by omega) hf hv Q 0 N (mn, mx) hqq (Nat.zero_mod _) (by omega) hok
  rw [show (0 : Int) = ((0 : Nat) : Int) from rfl, this]
  have e : prs ly gl flat = pF id S flat 0 (Q * S) := by
    unfold prs
    rw [if_neg hc, hst]
    simp only [Int.toNat_natCast]
    congr 1
    omega
  rw [e]
theorem xym_eq (hc : ly = 4 ∧ gl = 3) (hok : OK (strd ly).toNat (mn, mx)) : gogeom_Bounds_extendXYZMFlatCoordsWithXYM N (ly, mn, mx, ()) flat 0 (flat.length : Int) = some ((), (ly, (runP (prs ly gl flat) (mn, mx)).1, (runP (prs ly gl flat) (mn, mx)).2, ()), ()) := by
  obtain ⟨rfl, rfl⟩ := hc
  have hs3 : s = 3 := by rw [← hst]; decide
  subst hs3
  obtain ⟨q, hq⟩ := hw
  obtain ⟨Q, rfl⟩ := Int.eq_ofNat_of_zero_le (show 0 ≤ q by omega)
  unfold gogeom_Bounds_extendXYZMFlatCoordsWithXYM gogeom_Bounds_extendXYZMFlatCoordsWithXYM_g
  have := xym_out hN hNl (v1 := (4, mn, mx, ())) hf hv Q 0 N (mn, mx) (by omega) (Nat.zero_mod _) (by omega) hok
  rw [show (0 : Int) = ((0 : Nat) : Int) from rfl, this]
  have e : prs 4 3 flat = pF ax3 3 flat 0 (Q * 3) := by
    unfold prs
    rw [if_pos ⟨rfl, rfl⟩]
    congr 1
    omega
  rw [e]
end
structure Vb (ly : Int) (mn mx : List Nat) : Prop where
  lay : 0 ≤ ly ∧ ly ≤ 4
  ok : OK (strd ly).toNat (mn, mx)
/-- The bounds extended. -/
def EX (ly gl : Int) (mn mx flat : List Nat) : Bx := (cov ly gl, (runP (prs (cov ly gl) gl flat) (ext ly gl INF mn, ext ly gl NINF mx)).1, (runP (prs (cov ly gl) gl flat) (ext ly gl INF mn, ext ly gl NINF mx)).2, ())
theorem ext_vb {ly gl : Int} {mn mx : List Nat} (hb : Vb ly mn mx) (hgl : 1 ≤ gl ∧ gl ≤ 4) : OK (strd (cov ly gl)).toNat (ext ly gl INF mn, ext ly gl NINF mx) := by
  have l1 := hb.ok.l1
  have l2 := hb.ok.l2
  have a := strd_nn ly
  simp only at l1 l2
  have x1 := ext_ok hb.lay hgl infs.1 (l := mn) (by omega) (fun k hk => hb.ok.v1 k (by omega))
  have x2 := ext_ok hb.lay hgl infs.2 (l := mx) (by omega) (fun k hk => hb.ok.v2 k (by omega))
  exact ⟨x1.1, x2.1, fun k hk => x1.2 k (by rw [x1.1]; exact hk), fun k hk => x2.2 k (by rw [x2.1]; exact hk)⟩
theorem ext_of (g : Geo) (hw : wfG g) (gf : GoodF g) (l1 : 1 ≤ g.layout ∧ g.layout ≤ 4) (hlen : g.flat.length ≤ 2147483647) (hv : ∀ k, k < g.flat.length → isnan (g.flat.getD k 0) = false) {ly : Int} {mn mx : List Nat} (hb : Vb ly mn mx) :
    impl_BoxExtend N (ly, mn, mx, ()) g = some (EX ly g.layout mn mx g.flat, true, ()) := by
  have hsz := (sz_of hw).1
  have hends : g.ends.length * 8 ≤ 140737488355328 ∧ g.endss.length * 24 ≤ 140737488355328 ∧ ∀ x ∈ g.endss, x.length * 8 ≤ 140737488355328 := by
    cases g with
    | mk kd ly sr flat ends endss kids =>
      simp only [wfG] at hw
      unfold fits at hw
      simp only [Geo.ends, Geo.endss]
      refine ⟨by omega, by omega, fun x hx => ?_⟩
      have := (hw.2.2.2.2.2.1.2 x hx).1
      omega
  obtain ⟨f1, f2, f3, f4, f5⟩ := cov_facts hb.lay l1
  have b1 := hb.ok.l1
  have b2 := hb.ok.l2
  simp only at b1 b2
  have a := strd_nn ly
  have hb4 : strd ly ≤ 9 := by have := hb.lay; unfold strd; repeat' split
                               all_goals omega
  have hb5 : strd (cov ly g.layout) ≤ 9 := by unfold strd; repeat' split
                                              all_goals omega
  have hlay := layout_eq hN hNl (mn := mn) (mx := mx) hb.lay l1 (by omega) (by omega)
  have hok := ext_vb hN hNl hb l1
  have hrok := (runP_ok (n := (strd (cov ly g.layout)).toNat) (prs (cov ly g.layout) g.layout g.flat) (prs_ok hN hNl hb.lay l1 hv) hok).1
  have r1 := hrok.l1
  have r2 := hrok.l2
  have plain : ∀ (L : Int), impl_plainBox N (L, (runP (prs (cov ly g.layout) g.layout g.flat) (ext ly g.layout INF mn, ext ly g.layout NINF mx)).1, (runP (prs (cov ly g.layout) g.layout g.flat) (ext ly g.layout INF mn, ext ly g.layout NINF mx)).2, ()) = some ((L, (runP (prs (cov ly g.layout) g.layout g.flat) (ext ly g.layout INF mn, ext ly g.layout NINF mx)).1, (runP (prs (cov ly g.layout) g.layout g.flat) (ext ly g.layout INF mn, ext ly g.layout NINF mx)).2, ()), (L, (runP (prs (cov ly g.layout) g.layout g.flat) (ext ly g.layout INF mn, ext ly g.layout NINF mx)).1, (runP (prs (cov ly g.layout) g.layout g.flat) (ext ly g.layout INF mn, ext ly g.layout NINF mx)).2, ()), ()) := by
    intro L
    simp only [impl_plainBox, impl_plainBox_g, gogeom_DoorBoundsParts_b, gogeom_DoorBoundsParts_b_g, impl_floats, impl_floats_g, Option.bind_some]
    rw [lim_le (by omega), lim_le (by omega)]
    rfl
  generalize hS : strd g.layout = s
  have h0 : 0 < s := hS ▸ gf.pos
  have hwh : s ∣ (g.flat.length : Int) := hS ▸ gf.whole
  have dF := fun hc => flat_eq hN hNl (ly := cov ly g.layout) (mn := ext ly g.layout INF mn) (mx := ext ly g.layout NINF mx) ⟨f1, f2⟩ l1 hS hwh hlen hv hc (by omega) hok
  have dX := fun hc => xym_eq hN hNl (ly := cov ly g.layout) (mn := ext ly g.layout INF mn) (mx := ext ly g.layout NINF mx) ⟨f1, f2⟩ l1 hS hwh hlen hv hc hok
  have mp := fun h => mp_flat hN hNl (sr := g.srid) (ends := g.ends) (flat := g.flat) l1.1 hS h0 h
  unfold impl_BoxExtend impl_BoxExtend_g
  rw [eta, geom_eq hN hNl]
  unfold impl_geometry_g
  unfold impl_box impl_box_g
  unfold impl_floats impl_floats_g
  simp only
  rw [lim_le (n := mn.length * 8) (by omega), lim_le (n := mx.length * 8) (by omega), lim_le (n := g.flat.length * 8) (by omega)]
  unfold EX
  rcases gf.kind with e | e | e | e | e | e | e
  · rw [e]
    simp only [Option.bind_some, show ((1 : Int) == 1) = true from rfl, show ((2 : Int) == 1) = false from rfl, show ((2 : Int) == 2) = true from rfl, show ((8 : Int) == 1) = false from rfl, show ((8 : Int) == 2) = false from rfl, show ((8 : Int) == 8) = true from rfl, show ((3 : Int) == 1) = false from rfl, show ((3 : Int) == 2) = false from rfl, show ((3 : Int) == 8) = false from rfl, show ((3 : Int) == 3) = true from rfl, show ((4 : Int) == 1) = false from rfl, show ((4 : Int) == 2) = false from rfl, show ((4 : Int) == 8) = false from rfl, show ((4 : Int) == 3) = false from rfl, show ((4 : Int) == 4) = true from rfl, show ((5 : Int) == 1) = false from rfl, show ((5 : Int) == 2) = false from rfl, show ((5 : Int) == 8) = false from rfl, show ((5 : Int) == 3) = false from rfl, show ((5 : Int) == 4) = false from rfl, show ((5 : Int) == 5) = true from rfl, show ((6 : Int) == 1) = false from rfl, show ((6 : Int) == 2) = false from rfl, show ((6 : Int) == 8) = false from rfl, show ((6 : Int) == 3) = false from rfl, show ((6 : Int) == 4) = false from rfl, show ((6 : Int) == 5) = false from rfl, show ((6 : Int) == 6) = true from rfl,
      cond_true, cond_false, gogeom_NewPointFlat_b, gogeom_NewPointFlat_b_g, gogeom_Point_SetSRID, gogeom_Point_SetSRID_g, gogeom_NewLineStringFlat_b, gogeom_NewLineStringFlat_b_g, gogeom_NewLinearRingFlat_b, gogeom_NewLinearRingFlat_b_g, gogeom_NewPolygonFlat_b, gogeom_NewPolygonFlat_b_g,
      gogeom_NewMultiLineStringFlat_b, gogeom_NewMultiLineStringFlat_b_g, gogeom_NewMultiPolygonFlat, gogeom_NewMultiPolygonFlat_g, gogeom_LineString_SetSRID, gogeom_LineString_SetSRID_g, gogeom_LinearRing_SetSRID, gogeom_LinearRing_SetSRID_g,
      gogeom_Polygon_SetSRID, gogeom_Polygon_SetSRID_g, gogeom_MultiLineString_SetSRID, gogeom_MultiLineString_SetSRID_g, gogeom_MultiPolygon_SetSRID, gogeom_MultiPolygon_SetSRID_g, gogeom_MultiPoint_SetSRID, gogeom_MultiPoint_SetSRID_g,
      gogeom_NewMultiPointFlatOptionWithEnds_b, gogeom_NewMultiPointFlatOptionWithEnds_b_g, gogeom_DoorBounds_b, gogeom_DoorBounds_b_g,
      stride_geom N g.layout l1.1, impl_ints, impl_ints_g, lim_le hends.1, intss hN hNl _ hends.2.1 hends.2.2, Sum.elim_inl, Sum.elim_inr, hS]
    simp only [gogeom_Bounds_Extend_g, gogeom_Bounds_Extend, gogeom_Bounds_Extend_b_g, gogeom_Bounds_Extend_b, gogeom_Bounds_Extend_c_g, gogeom_Bounds_Extend_c, gogeom_Bounds_Extend_d_g, gogeom_Bounds_Extend_d, gogeom_Bounds_Extend_e_g, gogeom_Bounds_Extend_e, gogeom_Bounds_Extend_f_g, gogeom_Bounds_Extend_f, gogeom_Bounds_Extend_h_g, gogeom_Bounds_Extend_h, hlay, Option.bind_some, gogeom_geom0_Layout_g, gogeom_geom0_Layout, gogeom_geom0_FlatCoords_b_g, gogeom_geom0_FlatCoords_b, gogeom_geom0_FlatCoords_c_g, gogeom_geom0_FlatCoords_c, gogeom_geom0_Stride_g, gogeom_geom0_Stride, gogeom_geom0_Layout_c_g, gogeom_geom0_Layout_c, gogeom_geom0_FlatCoords_d_g, gogeom_geom0_FlatCoords_d, gogeom_geom0_FlatCoords_e_g, gogeom_geom0_FlatCoords_e, gogeom_geom0_Stride_b_g, gogeom_geom0_Stride_b, gogeom_geom0_Layout_d_g, gogeom_geom0_Layout_d, gogeom_geom0_FlatCoords_f_g, gogeom_geom0_FlatCoords_f, gogeom_geom0_Stride_c_g, gogeom_geom0_Stride_c, gogeom_geom0_Layout_f_g, gogeom_geom0_Layout_f, gogeom_geom0_FlatCoords_h_g, gogeom_geom0_FlatCoords_h, gogeom_geom0_Stride_d_g, gogeom_geom0_Stride_d]
    by_cases hL : cov ly g.layout = 4
    · rw [show (cov ly g.layout == 4) = true by rw [hL]; rfl]
      simp only [cond_true]
      by_cases h3 : g.layout = 3
      · rw [show (g.layout == 3) = true by rw [h3]; rfl]
        simp only [cond_true, dX ⟨hL, h3⟩, Option.bind_some, plain]
      · rw [show (g.layout == 3) = false by simpa using h3]
        simp only [cond_false, gogeom_Bounds_Extend_g0, gogeom_Bounds_Extend_j0, gogeom_Bounds_Extend_b_g0, gogeom_Bounds_Extend_b_j0, gogeom_Bounds_Extend_c_g0, gogeom_Bounds_Extend_c_j0, gogeom_Bounds_Extend_d_g0, gogeom_Bounds_Extend_d_j0, gogeom_Bounds_Extend_e_g0, gogeom_Bounds_Extend_e_j0, gogeom_Bounds_Extend_f_g0, gogeom_Bounds_Extend_f_j0, gogeom_Bounds_Extend_h_g0, gogeom_Bounds_Extend_h_j0, gate_pos hN, dF (fun h => h3 h.2), Option.bind_some, plain, gogeom_geom0_Layout_g, gogeom_geom0_Layout, gogeom_geom0_FlatCoords_b_g, gogeom_geom0_FlatCoords_b, gogeom_geom0_FlatCoords_c_g, gogeom_geom0_FlatCoords_c, gogeom_geom0_Stride_g, gogeom_geom0_Stride, gogeom_geom0_Layout_c_g, gogeom_geom0_Layout_c, gogeom_geom0_FlatCoords_d_g, gogeom_geom0_FlatCoords_d, gogeom_geom0_FlatCoords_e_g, gogeom_geom0_FlatCoords_e, gogeom_geom0_Stride_b_g, gogeom_geom0_Stride_b, gogeom_geom0_Layout_d_g, gogeom_geom0_Layout_d, gogeom_geom0_FlatCoords_f_g, gogeom_geom0_FlatCoords_f, gogeom_geom0_Stride_c_g, gogeom_geom0_Stride_c, gogeom_geom0_Layout_f_g, gogeom_geom0_Layout_f, gogeom_geom0_FlatCoords_h_g, gogeom_geom0_FlatCoords_h, gogeom_geom0_Stride_d_g, gogeom_geom0_Stride_d]
    · rw [show (cov ly g.layout == 4) = false by simpa using hL]
      simp only [cond_false, gogeom_Bounds_Extend_g0, gogeom_Bounds_Extend_j0, gogeom_Bounds_Extend_b_g0, gogeom_Bounds_Extend_b_j0, gogeom_Bounds_Extend_c_g0, gogeom_Bounds_Extend_c_j0, gogeom_Bounds_Extend_d_g0, gogeom_Bounds_Extend_d_j0, gogeom_Bounds_Extend_e_g0, gogeom_Bounds_Extend_e_j0, gogeom_Bounds_Extend_f_g0, gogeom_Bounds_Extend_f_j0, gogeom_Bounds_Extend_h_g0, gogeom_Bounds_Extend_h_j0, gate_pos hN, dF (fun h => hL h.1), Option.bind_some, plain, gogeom_geom0_Layout_g, gogeom_geom0_Layout, gogeom_geom0_FlatCoords_b_g, gogeom_geom0_FlatCoords_b, gogeom_geom0_FlatCoords_c_g, gogeom_geom0_FlatCoords_c, gogeom_geom0_Stride_g, gogeom_geom0_Stride, gogeom_geom0_Layout_c_g, gogeom_geom0_Layout_c, gogeom_geom0_FlatCoords_d_g, gogeom_geom0_FlatCoords_d, gogeom_geom0_FlatCoords_e_g, gogeom_geom0_FlatCoords_e, gogeom_geom0_Stride_b_g, gogeom_geom0_Stride_b, gogeom_geom0_Layout_d_g, gogeom_geom0_Layout_d, gogeom_geom0_FlatCoords_f_g, gogeom_geom0_FlatCoords_f, gogeom_geom0_Stride_c_g, gogeom_geom0_Stride_c, gogeom_geom0_Layout_f_g, gogeom_geom0_Layout_f, gogeom_geom0_FlatCoords_h_g, gogeom_geom0_FlatCoords_h, gogeom_geom0_Stride_d_g, gogeom_geom0_Stride_d]
  · rw [e]
    simp only [Option.bind_some, show ((1 : Int) == 1) = true from rfl, show ((2 : Int) == 1) = false from rfl, show ((2 : Int) == 2) = true from rfl, show ((8 : Int) == 1) = false from rfl, show ((8 : Int) == 2) = false from rfl, show ((8 : Int) == 8) = true from rfl, show ((3 : Int) == 1) = false from rfl, show ((3 : Int) == 2) = false from rfl, show ((3 : Int) == 8) = false from rfl, show ((3 : Int) == 3) = true from rfl, show ((4 : Int) == 1) = false from rfl, show ((4 : Int) == 2) = false from rfl, show ((4 : Int) == 8) = false from rfl, show ((4 : Int) == 3) = false from rfl, show ((4 : Int) == 4) = true from rfl, show ((5 : Int) == 1) = false from rfl, show ((5 : Int) == 2) = false from rfl, show ((5 : Int) == 8) = false from rfl, show ((5 : Int) == 3) = false from rfl, show ((5 : Int) == 4) = false from rfl, show ((5 : Int) == 5) = true from rfl, show ((6 : Int) == 1) = false from rfl, show ((6 : Int) == 2) = false from rfl, show ((6 : Int) == 8) = false from rfl, show ((6 : Int) == 3) = false from rfl, show ((6 : Int) == 4) = false from rfl, show ((6 : Int) == 5) = false from rfl, show ((6 : Int) == 6) = true from rfl,
      cond_true, cond_false, gogeom_NewPointFlat_b, gogeom_NewPointFlat_b_g, gogeom_Point_SetSRID, gogeom_Point_SetSRID_g, gogeom_NewLineStringFlat_b, gogeom_NewLineStringFlat_b_g, gogeom_NewLinearRingFlat_b, gogeom_NewLinearRingFlat_b_g, gogeom_NewPolygonFlat_b, gogeom_NewPolygonFlat_b_g,
      gogeom_NewMultiLineStringFlat_b, gogeom_NewMultiLineStringFlat_b_g, gogeom_NewMultiPolygonFlat, gogeom_NewMultiPolygonFlat_g, gogeom_LineString_SetSRID, gogeom_LineString_SetSRID_g, gogeom_LinearRing_SetSRID, gogeom_LinearRing_SetSRID_g,
      gogeom_Polygon_SetSRID, gogeom_Polygon_SetSRID_g, gogeom_MultiLineString_SetSRID, gogeom_MultiLineString_SetSRID_g, gogeom_MultiPolygon_SetSRID, gogeom_MultiPolygon_SetSRID_g, gogeom_MultiPoint_SetSRID, gogeom_MultiPoint_SetSRID_g,
      gogeom_NewMultiPointFlatOptionWithEnds_b, gogeom_NewMultiPointFlatOptionWithEnds_b_g, gogeom_DoorBounds_b, gogeom_DoorBounds_b_g,
      stride_geom N g.layout l1.1, impl_ints, impl_ints_g, lim_le hends.1, intss hN hNl _ hends.2.1 hends.2.2, Sum.elim_inl, Sum.elim_inr, hS]
    simp only [gogeom_Bounds_Extend_g, gogeom_Bounds_Extend, gogeom_Bounds_Extend_b_g, gogeom_Bounds_Extend_b, gogeom_Bounds_Extend_c_g, gogeom_Bounds_Extend_c, gogeom_Bounds_Extend_d_g, gogeom_Bounds_Extend_d, gogeom_Bounds_Extend_e_g, gogeom_Bounds_Extend_e, gogeom_Bounds_Extend_f_g, gogeom_Bounds_Extend_f, gogeom_Bounds_Extend_h_g, gogeom_Bounds_Extend_h, hlay, Option.bind_some, gogeom_geom0_Layout_g, gogeom_geom0_Layout, gogeom_geom0_FlatCoords_b_g, gogeom_geom0_FlatCoords_b, gogeom_geom0_FlatCoords_c_g, gogeom_geom0_FlatCoords_c, gogeom_geom0_Stride_g, gogeom_geom0_Stride, gogeom_geom0_Layout_c_g, gogeom_geom0_Layout_c, gogeom_geom0_FlatCoords_d_g, gogeom_geom0_FlatCoords_d, gogeom_geom0_FlatCoords_e_g, gogeom_geom0_FlatCoords_e, gogeom_geom0_Stride_b_g, gogeom_geom0_Stride_b, gogeom_geom0_Layout_d_g, gogeom_geom0_Layout_d, gogeom_geom0_FlatCoords_f_g, gogeom_geom0_FlatCoords_f, gogeom_geom0_Stride_c_g, gogeom_geom0_Stride_c, gogeom_geom0_Layout_f_g, gogeom_geom0_Layout_f, gogeom_geom0_FlatCoords_h_g, gogeom_geom0_FlatCoords_h, gogeom_geom0_Stride_d_g, gogeom_geom0_Stride_d]
    by_cases hL : cov ly g.layout = 4
    · rw [show (cov ly g.layout == 4) = true by rw [hL]; rfl]
      simp only [cond_true]
      by_cases h3 : g.layout = 3
      · rw [show (g.layout == 3) = true by rw [h3]; rfl]
        simp only [cond_true, dX ⟨hL, h3⟩, Option.bind_some, plain]
      · rw [show (g.layout == 3) = false by simpa using h3]
        simp only [cond_false, gogeom_Bounds_Extend_g0, gogeom_Bounds_Extend_j0, gogeom_Bounds_Extend_b_g0, gogeom_Bounds_Extend_b_j0, gogeom_Bounds_Extend_c_g0, gogeom_Bounds_Extend_c_j0, gogeom_Bounds_Extend_d_g0, gogeom_Bounds_Extend_d_j0, gogeom_Bounds_Extend_e_g0, gogeom_Bounds_Extend_e_j0, gogeom_Bounds_Extend_f_g0, gogeom_Bounds_Extend_f_j0, gogeom_Bounds_Extend_h_g0, gogeom_Bounds_Extend_h_j0, gate_pos hN, dF (fun h => h3 h.2), Option.bind_some, plain, gogeom_geom0_Layout_g, gogeom_geom0_Layout, gogeom_geom0_FlatCoords_b_g, gogeom_geom0_FlatCoords_b, gogeom_geom0_FlatCoords_c_g, gogeom_geom0_FlatCoords_c, gogeom_geom0_Stride_g, gogeom_geom0_Stride, gogeom_geom0_Layout_c_g, gogeom_geom0_Layout_c, gogeom_geom0_FlatCoords_d_g, gogeom_geom0_FlatCoords_d, gogeom_geom0_FlatCoords_e_g, gogeom_geom0_FlatCoords_e, gogeom_geom0_Stride_b_g, gogeom_geom0_Stride_b, gogeom_geom0_Layout_d_g, gogeom_geom0_Layout_d, gogeom_geom0_FlatCoords_f_g, gogeom_geom0_FlatCoords_f, gogeom_geom0_Stride_c_g, gogeom_geom0_Stride_c, gogeom_geom0_Layout_f_g, gogeom_geom0_Layout_f, gogeom_geom0_FlatCoords_h_g, gogeom_geom0_FlatCoords_h, gogeom_geom0_Stride_d_g, gogeom_geom0_Stride_d]
    · rw [show (cov ly g.layout == 4) = false by simpa using hL]
      simp only [cond_false, gogeom_Bounds_Extend_g0, gogeom_Bounds_Extend_j0, gogeom_Bounds_Extend_b_g0, gogeom_Bounds_Extend_b_j0, gogeom_Bounds_Extend_c_g0, gogeom_Bounds_Extend_c_j0, gogeom_Bounds_Extend_d_g0, gogeom_Bounds_Extend_d_j0, gogeom_Bounds_Extend_e_g0, gogeom_Bounds_Extend_e_j0, gogeom_Bounds_Extend_f_g0, gogeom_Bounds_Extend_f_j0, gogeom_Bounds_Extend_h_g0, gogeom_Bounds_Extend_h_j0, gate_pos hN, dF (fun h => hL h.1), Option.bind_some, plain, gogeom_geom0_Layout_g, gogeom_geom0_Layout, gogeom_geom0_FlatCoords_b_g, gogeom_geom0_FlatCoords_b, gogeom_geom0_FlatCoords_c_g, gogeom_geom0_FlatCoords_c, gogeom_geom0_Stride_g, gogeom_geom0_Stride, gogeom_geom0_Layout_c_g, gogeom_geom0_Layout_c, gogeom_geom0_FlatCoords_d_g, gogeom_geom0_FlatCoords_d, gogeom_geom0_FlatCoords_e_g, gogeom_geom0_FlatCoords_e, gogeom_geom0_Stride_b_g, gogeom_geom0_Stride_b, gogeom_geom0_Layout_d_g, gogeom_geom0_Layout_d, gogeom_geom0_FlatCoords_f_g, gogeom_geom0_FlatCoords_f, gogeom_geom0_Stride_c_g, gogeom_geom0_Stride_c, gogeom_geom0_Layout_f_g, gogeom_geom0_Layout_f, gogeom_geom0_FlatCoords_h_g, gogeom_geom0_FlatCoords_h, gogeom_geom0_Stride_d_g, gogeom_geom0_Stride_d]
  · rw [e]
    simp only [Option.bind_some, show ((1 : Int) == 1) = true from rfl, show ((2 : Int) == 1) = false from rfl, show ((2 : Int) == 2) = true from rfl, show ((8 : Int) == 1) = false from rfl, show ((8 : Int) == 2) = false from rfl, show ((8 : Int) == 8) = true from rfl, show ((3 : Int) == 1) = false from rfl, show ((3 : Int) == 2) = false from rfl, show ((3 : Int) == 8) = false from rfl, show ((3 : Int) == 3) = true from rfl, show ((4 : Int) == 1) = false from rfl, show ((4 : Int) == 2) = false from rfl, show ((4 : Int) == 8) = false from rfl, show ((4 : Int) == 3) = false from rfl, show ((4 : Int) == 4) = true from rfl, show ((5 : Int) == 1) = false from rfl, show ((5 : Int) == 2) = false from rfl, show ((5 : Int) == 8) = false from rfl, show ((5 : Int) == 3) = false from rfl, show ((5 : Int) == 4) = false from rfl, show ((5 : Int) == 5) = true from rfl, show ((6 : Int) == 1) = false from rfl, show ((6 : Int) == 2) = false from rfl, show ((6 : Int) == 8) = false from rfl, show ((6 : Int) == 3) = false from rfl, show ((6 : Int) == 4) = false from rfl, show ((6 : Int) == 5) = false from rfl, show ((6 : Int) == 6) = true from rfl,
      cond_true, cond_false, gogeom_NewPointFlat_b, gogeom_NewPointFlat_b_g, gogeom_Point_SetSRID, gogeom_Point_SetSRID_g, gogeom_NewLineStringFlat_b, gogeom_NewLineStringFlat_b_g, gogeom_NewLinearRingFlat_b, gogeom_NewLinearRingFlat_b_g, gogeom_NewPolygonFlat_b, gogeom_NewPolygonFlat_b_g,
      gogeom_NewMultiLineStringFlat_b, gogeom_NewMultiLineStringFlat_b_g, gogeom_NewMultiPolygonFlat, gogeom_NewMultiPolygonFlat_g, gogeom_LineString_SetSRID, gogeom_LineString_SetSRID_g, gogeom_LinearRing_SetSRID, gogeom_LinearRing_SetSRID_g,
      gogeom_Polygon_SetSRID, gogeom_Polygon_SetSRID_g, gogeom_MultiLineString_SetSRID, gogeom_MultiLineString_SetSRID_g, gogeom_MultiPolygon_SetSRID, gogeom_MultiPolygon_SetSRID_g, gogeom_MultiPoint_SetSRID, gogeom_MultiPoint_SetSRID_g,
      gogeom_NewMultiPointFlatOptionWithEnds_b, gogeom_NewMultiPointFlatOptionWithEnds_b_g, gogeom_DoorBounds_b, gogeom_DoorBounds_b_g,
      stride_geom N g.layout l1.1, impl_ints, impl_ints_g, lim_le hends.1, intss hN hNl _ hends.2.1 hends.2.2, Sum.elim_inl, Sum.elim_inr, hS]
    simp only [gogeom_Bounds_Extend_g, gogeom_Bounds_Extend, gogeom_Bounds_Extend_b_g, gogeom_Bounds_Extend_b, gogeom_Bounds_Extend_c_g, gogeom_Bounds_Extend_c, gogeom_Bounds_Extend_d_g, gogeom_Bounds_Extend_d, gogeom_Bounds_Extend_e_g, gogeom_Bounds_Extend_e, gogeom_Bounds_Extend_f_g, gogeom_Bounds_Extend_f, gogeom_Bounds_Extend_h_g, gogeom_Bounds_Extend_h, hlay, Option.bind_some, gogeom_geom0_Layout_g, gogeom_geom0_Layout, gogeom_geom0_FlatCoords_b_g, gogeom_geom0_FlatCoords_b, gogeom_geom0_FlatCoords_c_g, gogeom_geom0_FlatCoords_c, gogeom_geom0_Stride_g, gogeom_geom0_Stride, gogeom_geom0_Layout_c_g, gogeom_geom0_Layout_c, gogeom_geom0_FlatCoords_d_g, gogeom_geom0_FlatCoords_d, gogeom_geom0_FlatCoords_e_g, gogeom_geom0_FlatCoords_e, gogeom_geom0_Stride_b_g, gogeom_geom0_Stride_b, gogeom_geom0_Layout_d_g, gogeom_geom0_Layout_d, gogeom_geom0_FlatCoords_f_g, gogeom_geom0_FlatCoords_f, gogeom_geom0_Stride_c_g, gogeom_geom0_Stride_c, gogeom_geom0_Layout_f_g, gogeom_geom0_Layout_f, gogeom_geom0_FlatCoords_h_g, gogeom_geom0_FlatCoords_h, gogeom_geom0_Stride_d_g, gogeom_geom0_Stride_d]
    by_cases hL : cov ly g.layout = 4
    · rw [show (cov ly g.layout == 4) = true by rw [hL]; rfl]
      simp only [cond_true]
      by_cases h3 : g.layout = 3
      · rw [show (g.layout == 3) = true by rw [h3]; rfl]
        simp only [cond_true, dX ⟨hL, h3⟩, Option.bind_some, plain]
      · rw [show (g.layout == 3) = false by simpa using h3]
        simp only [cond_false, gogeom_Bounds_Extend_g0, gogeom_Bounds_Extend_j0, gogeom_Bounds_Extend_b_g0, gogeom_Bounds_Extend_b_j0, gogeom_Bounds_Extend_c_g0, gogeom_Bounds_Extend_c_j0, gogeom_Bounds_Extend_d_g0, gogeom_Bounds_Extend_d_j0, gogeom_Bounds_Extend_e_g0, gogeom_Bounds_Extend_e_j0, gogeom_Bounds_Extend_f_g0, gogeom_Bounds_Extend_f_j0, gogeom_Bounds_Extend_h_g0, gogeom_Bounds_Extend_h_j0, gate_pos hN, dF (fun h => h3 h.2), Option.bind_some, plain, gogeom_geom0_Layout_g, gogeom_geom0_Layout, gogeom_geom0_FlatCoords_b_g, gogeom_geom0_FlatCoords_b, gogeom_geom0_FlatCoords_c_g, gogeom_geom0_FlatCoords_c, gogeom_geom0_Stride_g, gogeom_geom0_Stride, gogeom_geom0_Layout_c_g, gogeom_geom0_Layout_c, gogeom_geom0_FlatCoords_d_g, gogeom_geom0_FlatCoords_d, gogeom_geom0_FlatCoords_e_g, gogeom_geom0_FlatCoords_e, gogeom_geom0_Stride_b_g, gogeom_geom0_Stride_b, gogeom_geom0_Layout_d_g, gogeom_geom0_Layout_d, gogeom_geom0_FlatCoords_f_g, gogeom_geom0_FlatCoords_f, gogeom_geom0_Stride_c_g, gogeom_geom0_Stride_c, gogeom_geom0_Layout_f_g, gogeom_geom0_Layout_f, gogeom_geom0_FlatCoords_h_g, gogeom_geom0_FlatCoords_h, gogeom_geom0_Stride_d_g, gogeom_geom0_Stride_d]
    · rw [show (cov ly g.layout == 4) = false by simpa using hL]
      simp only [cond_false, gogeom_Bounds_Extend_g0, gogeom_Bounds_Extend_j0, gogeom_Bounds_Extend_b_g0, gogeom_Bounds_Extend_b_j0, gogeom_Bounds_Extend_c_g0, gogeom_Bounds_Extend_c_j0, gogeom_Bounds_Extend_d_g0, gogeom_Bounds_Extend_d_j0, gogeom_Bounds_Extend_e_g0, gogeom_Bounds_Extend_e_j0, gogeom_Bounds_Extend_f_g0, gogeom_Bounds_Extend_f_j0, gogeom_Bounds_Extend_h_g0, gogeom_Bounds_Extend_h_j0, gate_pos hN, dF (fun h => hL h.1), Option.bind_some, plain, gogeom_geom0_Layout_g, gogeom_geom0_Layout, gogeom_geom0_FlatCoords_b_g, gogeom_geom0_FlatCoords_b, gogeom_geom0_FlatCoords_c_g, gogeom_geom0_FlatCoords_c, gogeom_geom0_Stride_g, gogeom_geom0_Stride, gogeom_geom0_Layout_c_g, gogeom_geom0_Layout_c, gogeom_geom0_FlatCoords_d_g, gogeom_geom0_FlatCoords_d, gogeom_geom0_FlatCoords_e_g, gogeom_geom0_FlatCoords_e, gogeom_geom0_Stride_b_g, gogeom_geom0_Stride_b, gogeom_geom0_Layout_d_g, gogeom_geom0_Layout_d, gogeom_geom0_FlatCoords_f_g, gogeom_geom0_FlatCoords_f, gogeom_geom0_Stride_c_g, gogeom_geom0_Stride_c, gogeom_geom0_Layout_f_g, gogeom_geom0_Layout_f, gogeom_geom0_FlatCoords_h_g, gogeom_geom0_FlatCoords_h, gogeom_geom0_Stride_d_g, gogeom_geom0_Stride_d]
  · rw [e]
    simp only [Option.bind_some, show ((1 : Int) == 1) = true from rfl, show ((2 : Int) == 1) = false from rfl, show ((2 : Int) == 2) = true from rfl, show ((8 : Int) == 1) = false from rfl, show ((8 : Int) == 2) = false from rfl, show ((8 : Int) == 8) = true from rfl, show ((3 : Int) == 1) = false from rfl, show ((3 : Int) == 2) = false from rfl, show ((3 : Int) == 8) = false from rfl, show ((3 : Int) == 3) = true from rfl, show ((4 : Int) == 1) = false from rfl, show ((4 : Int) == 2) = false from rfl, show ((4 : Int) == 8) = false from rfl, show ((4 : Int) == 3) = false from rfl, show ((4 : Int) == 4) = true from rfl, show ((5 : Int) == 1) = false from rfl, show ((5 : Int) == 2) = false from rfl, show ((5 : Int) == 8) = false from rfl, show ((5 : Int) == 3) = false from rfl, show ((5 : Int) == 4) = false from rfl, show ((5 : Int) == 5) = true from rfl, show ((6 : Int) == 1) = false from rfl, show ((6 : Int) == 2) = false from rfl, show ((6 : Int) == 8) = false from rfl, show ((6 : Int) == 3) = false from rfl, show ((6 : Int) == 4) = false from rfl, show ((6 : Int) == 5) = false from rfl, show ((6 : Int) == 6) = true from rfl,
      cond_true, cond_false, gogeom_NewPointFlat_b, gogeom_NewPointFlat_b_g, gogeom_Point_SetSRID, gogeom_Point_SetSRID_g, gogeom_NewLineStringFlat_b, gogeom_NewLineStringFlat_b_g, gogeom_NewLinearRingFlat_b, gogeom_NewLinearRingFlat_b_g, gogeom_NewPolygonFlat_b, gogeom_NewPolygonFlat_b_g,
      gogeom_NewMultiLineStringFlat_b, gogeom_NewMultiLineStringFlat_b_g, gogeom_NewMultiPolygonFlat, gogeom_NewMultiPolygonFlat_g, gogeom_LineString_SetSRID, gogeom_LineString_SetSRID_g, gogeom_LinearRing_SetSRID, gogeom_LinearRing_SetSRID_g,
      gogeom_Polygon_SetSRID, gogeom_Polygon_SetSRID_g, gogeom_MultiLineString_SetSRID, gogeom_MultiLineString_SetSRID_g, gogeom_MultiPolygon_SetSRID, gogeom_MultiPolygon_SetSRID_g, gogeom_MultiPoint_SetSRID, gogeom_MultiPoint_SetSRID_g,
      gogeom_NewMultiPointFlatOptionWithEnds_b, gogeom_NewMultiPointFlatOptionWithEnds_b_g, gogeom_DoorBounds_b, gogeom_DoorBounds_b_g,
      stride_geom N g.layout l1.1, impl_ints, impl_ints_g, lim_le hends.1, intss hN hNl _ hends.2.1 hends.2.2, Sum.elim_inl, Sum.elim_inr, hS]
    simp only [gogeom_Bounds_Extend_g, gogeom_Bounds_Extend, gogeom_Bounds_Extend_b_g, gogeom_Bounds_Extend_b, gogeom_Bounds_Extend_c_g, gogeom_Bounds_Extend_c, gogeom_Bounds_Extend_d_g, gogeom_Bounds_Extend_d, gogeom_Bounds_Extend_e_g, gogeom_Bounds_Extend_e, gogeom_Bounds_Extend_f_g, gogeom_Bounds_Extend_f, gogeom_Bounds_Extend_h_g, gogeom_Bounds_Extend_h, hlay, Option.bind_some, gogeom_geom0_Layout_g, gogeom_geom0_Layout, gogeom_geom0_FlatCoords_b_g, gogeom_geom0_FlatCoords_b, gogeom_geom0_FlatCoords_c_g, gogeom_geom0_FlatCoords_c, gogeom_geom0_Stride_g, gogeom_geom0_Stride, gogeom_geom0_Layout_c_g, gogeom_geom0_Layout_c, gogeom_geom0_FlatCoords_d_g, gogeom_geom0_FlatCoords_d, gogeom_geom0_FlatCoords_e_g, gogeom_geom0_FlatCoords_e, gogeom_geom0_Stride_b_g, gogeom_geom0_Stride_b, gogeom_geom0_Layout_d_g, gogeom_geom0_Layout_d, gogeom_geom0_FlatCoords_f_g, gogeom_geom0_FlatCoords_f, gogeom_geom0_Stride_c_g, gogeom_geom0_Stride_c, gogeom_geom0_Layout_f_g, gogeom_geom0_Layout_f, gogeom_geom0_FlatCoords_h_g, gogeom_geom0_FlatCoords_h, gogeom_geom0_Stride_d_g, gogeom_geom0_Stride_d]
    by_cases hL : cov ly g.layout = 4
    · rw [show (cov ly g.layout == 4) = true by rw [hL]; rfl]
      simp only [cond_true]
      by_cases h3 : g.layout = 3
      · rw [show (g.layout == 3) = true by rw [h3]; rfl]
        simp only [cond_true, dX ⟨hL, h3⟩, Option.bind_some, plain]
      · rw [show (g.layout == 3) = false by simpa using h3]
        simp only [cond_false, gogeom_Bounds_Extend_g0, gogeom_Bounds_Extend_j0, gogeom_Bounds_Extend_b_g0, gogeom_Bounds_Extend_b_j0, gogeom_Bounds_Extend_c_g0, gogeom_Bounds_Extend_c_j0, gogeom_Bounds_Extend_d_g0, gogeom_Bounds_Extend_d_j0, gogeom_Bounds_Extend_e_g0, gogeom_Bounds_Extend_e_j0, gogeom_Bounds_Extend_f_g0, gogeom_Bounds_Extend_f_j0, gogeom_Bounds_Extend_h_g0, gogeom_Bounds_Extend_h_j0, gate_pos hN, dF (fun h => h3 h.2), Option.bind_some, plain, gogeom_geom0_Layout_g, gogeom_geom0_Layout, gogeom_geom0_FlatCoords_b_g, gogeom_geom0_FlatCoords_b, gogeom_geom0_FlatCoords_c_g, gogeom_geom0_FlatCoords_c, gogeom_geom0_Stride_g, gogeom_geom0_Stride, gogeom_geom0_Layout_c_g, gogeom_geom0_Layout_c, gogeom_geom0_FlatCoords_d_g, gogeom_geom0_FlatCoords_d, gogeom_geom0_FlatCoords_e_g, gogeom_geom0_FlatCoords_e, gogeom_geom0_Stride_b_g, gogeom_geom0_Stride_b, gogeom_geom0_Layout_d_g, gogeom_geom0_Layout_d, gogeom_geom0_FlatCoords_f_g, gogeom_geom0_FlatCoords_f, gogeom_geom0_Stride_c_g, gogeom_geom0_Stride_c, gogeom_geom0_Layout_f_g, gogeom_geom0_Layout_f, gogeom_geom0_FlatCoords_h_g, gogeom_geom0_FlatCoords_h, gogeom_geom0_Stride_d_g, gogeom_geom0_Stride_d]
    · rw [show (cov ly g.layout == 4) = false by simpa using hL]
      simp only [cond_false, gogeom_Bounds_Extend_g0, gogeom_Bounds_Extend_j0, gogeom_Bounds_Extend_b_g0, gogeom_Bounds_Extend_b_j0, gogeom_Bounds_Extend_c_g0, gogeom_Bounds_Extend_c_j0, gogeom_Bounds_Extend_d_g0, gogeom_Bounds_Extend_d_j0, gogeom_Bounds_Extend_e_g0, gogeom_Bounds_Extend_e_j0, gogeom_Bounds_Extend_f_g0, gogeom_Bounds_Extend_f_j0, gogeom_Bounds_Extend_h_g0, gogeom_Bounds_Extend_h_j0, gate_pos hN, dF (fun h => hL h.1), Option.bind_some, plain, gogeom_geom0_Layout_g, gogeom_geom0_Layout, gogeom_geom0_FlatCoords_b_g, gogeom_geom0_FlatCoords_b, gogeom_geom0_FlatCoords_c_g, gogeom_geom0_FlatCoords_c, gogeom_geom0_Stride_g, gogeom_geom0_Stride, gogeom_geom0_Layout_c_g, gogeom_geom0_Layout_c, gogeom_geom0_FlatCoords_d_g, gogeom_geom0_FlatCoords_d, gogeom_geom0_FlatCoords_e_g, gogeom_geom0_FlatCoords_e, gogeom_geom0_Stride_b_g, gogeom_geom0_Stride_b, gogeom_geom0_Layout_d_g, gogeom_geom0_Layout_d, gogeom_geom0_FlatCoords_f_g, gogeom_geom0_FlatCoords_f, gogeom_geom0_Stride_c_g, gogeom_geom0_Stride_c, gogeom_geom0_Layout_f_g, gogeom_geom0_Layout_f, gogeom_geom0_FlatCoords_h_g, gogeom_geom0_FlatCoords_h, gogeom_geom0_Stride_d_g, gogeom_geom0_Stride_d]
  · rw [e]
    simp only [Option.bind_some, show ((1 : Int) == 1) = true from rfl, show ((2 : Int) == 1) = false from rfl, show ((2 : Int) == 2) = true from rfl, show ((8 : Int) == 1) = false from rfl, show ((8 : Int) == 2) = false from rfl, show ((8 : Int) == 8) = true from rfl, show ((3 : Int) == 1) = false from rfl, show ((3 : Int) == 2) = false from rfl, show ((3 : Int) == 8) = false from rfl, show ((3 : Int) == 3) = true from rfl, show ((4 : Int) == 1) = false from rfl, show ((4 : Int) == 2) = false from rfl, show ((4 : Int) == 8) = false from rfl, show ((4 : Int) == 3) = false from rfl, show ((4 : Int) == 4) = true from rfl, show ((5 : Int) == 1) = false from rfl, show ((5 : Int) == 2) = false from rfl, show ((5 : Int) == 8) = false from rfl, show ((5 : Int) == 3) = false from rfl, show ((5 : Int) == 4) = false from rfl, show ((5 : Int) == 5) = true from rfl, show ((6 : Int) == 1) = false from rfl, show ((6 : Int) == 2) = false from rfl, show ((6 : Int) == 8) = false from rfl, show ((6 : Int) == 3) = false from rfl, show ((6 : Int) == 4) = false from rfl, show ((6 : Int) == 5) = false from rfl, show ((6 : Int) == 6) = true from rfl,
      cond_true, cond_false, gogeom_NewPointFlat_b, gogeom_NewPointFlat_b_g, gogeom_Point_SetSRID, gogeom_Point_SetSRID_g, gogeom_NewLineStringFlat_b, gogeom_NewLineStringFlat_b_g, gogeom_NewLinearRingFlat_b, gogeom_NewLinearRingFlat_b_g, gogeom_NewPolygonFlat_b, gogeom_NewPolygonFlat_b_g,
      gogeom_NewMultiLineStringFlat_b, gogeom_NewMultiLineStringFlat_b_g, gogeom_NewMultiPolygonFlat, gogeom_NewMultiPolygonFlat_g, gogeom_LineString_SetSRID, gogeom_LineString_SetSRID_g, gogeom_LinearRing_SetSRID, gogeom_LinearRing_SetSRID_g,
      gogeom_Polygon_SetSRID, gogeom_Polygon_SetSRID_g, gogeom_MultiLineString_SetSRID, gogeom_MultiLineString_SetSRID_g, gogeom_MultiPolygon_SetSRID, gogeom_MultiPolygon_SetSRID_g, gogeom_MultiPoint_SetSRID, gogeom_MultiPoint_SetSRID_g,
      gogeom_NewMultiPointFlatOptionWithEnds_b, gogeom_NewMultiPointFlatOptionWithEnds_b_g, gogeom_DoorBounds_b, gogeom_DoorBounds_b_g,
      mp (by have := gf.parts (.inr (.inl e)); rwa [hS] at this), stride_geom N g.layout l1.1, impl_ints, impl_ints_g, lim_le hends.1, intss hN hNl _ hends.2.1 hends.2.2, Sum.elim_inl, Sum.elim_inr, hS]
    simp only [gogeom_Bounds_Extend_g, gogeom_Bounds_Extend, gogeom_Bounds_Extend_b_g, gogeom_Bounds_Extend_b, gogeom_Bounds_Extend_c_g, gogeom_Bounds_Extend_c, gogeom_Bounds_Extend_d_g, gogeom_Bounds_Extend_d, gogeom_Bounds_Extend_e_g, gogeom_Bounds_Extend_e, gogeom_Bounds_Extend_f_g, gogeom_Bounds_Extend_f, gogeom_Bounds_Extend_h_g, gogeom_Bounds_Extend_h, hlay, Option.bind_some, gogeom_geom0_Layout_g, gogeom_geom0_Layout, gogeom_geom0_FlatCoords_b_g, gogeom_geom0_FlatCoords_b, gogeom_geom0_FlatCoords_c_g, gogeom_geom0_FlatCoords_c, gogeom_geom0_Stride_g, gogeom_geom0_Stride, gogeom_geom0_Layout_c_g, gogeom_geom0_Layout_c, gogeom_geom0_FlatCoords_d_g, gogeom_geom0_FlatCoords_d, gogeom_geom0_FlatCoords_e_g, gogeom_geom0_FlatCoords_e, gogeom_geom0_Stride_b_g, gogeom_geom0_Stride_b, gogeom_geom0_Layout_d_g, gogeom_geom0_Layout_d, gogeom_geom0_FlatCoords_f_g, gogeom_geom0_FlatCoords_f, gogeom_geom0_Stride_c_g, gogeom_geom0_Stride_c, gogeom_geom0_Layout_f_g, gogeom_geom0_Layout_f, gogeom_geom0_FlatCoords_h_g, gogeom_geom0_FlatCoords_h, gogeom_geom0_Stride_d_g, gogeom_geom0_Stride_d]
    by_cases hL : cov ly g.layout = 4
    · rw [show (cov ly g.layout == 4) = true by rw [hL]; rfl]
      simp only [cond_true]
      by_cases h3 : g.layout = 3
      · rw [show (g.layout == 3) = true by rw [h3]; rfl]
        simp only [cond_true, dX ⟨hL, h3⟩, Option.bind_some, plain]
      · rw [show (g.layout == 3) = false by simpa using h3]
        simp only [cond_false, gogeom_Bounds_Extend_g0, gogeom_Bounds_Extend_j0, gogeom_Bounds_Extend_b_g0, gogeom_Bounds_Extend_b_j0, gogeom_Bounds_Extend_c_g0, gogeom_Bounds_Extend_c_j0, gogeom_Bounds_Extend_d_g0, gogeom_Bounds_Extend_d_j0, gogeom_Bounds_Extend_e_g0, gogeom_Bounds_Extend_e_j0, gogeom_Bounds_Extend_f_g0, gogeom_Bounds_Extend_f_j0, gogeom_Bounds_Extend_h_g0, gogeom_Bounds_Extend_h_j0, gate_pos hN, dF (fun h => h3 h.2), Option.bind_some, plain, gogeom_geom0_Layout_g, gogeom_geom0_Layout, gogeom_geom0_FlatCoords_b_g, gogeom_geom0_FlatCoords_b, gogeom_geom0_FlatCoords_c_g, gogeom_geom0_FlatCoords_c, gogeom_geom0_Stride_g, gogeom_geom0_Stride, gogeom_geom0_Layout_c_g, gogeom_geom0_Layout_c, gogeom_geom0_FlatCoords_d_g, gogeom_geom0_FlatCoords_d, gogeom_geom0_FlatCoords_e_g, gogeom_geom0_FlatCoords_e, gogeom_geom0_Stride_b_g, gogeom_geom0_Stride_b, gogeom_geom0_Layout_d_g, gogeom_geom0_Layout_d, gogeom_geom0_FlatCoords_f_g, gogeom_geom0_FlatCoords_f, gogeom_geom0_Stride_c_g, gogeom_geom0_Stride_c, gogeom_geom0_Layout_f_g, gogeom_geom0_Layout_f, gogeom_geom0_FlatCoords_h_g, gogeom_geom0_FlatCoords_h, gogeom_geom0_Stride_d_g, gogeom_geom0_Stride_d]
    · rw [show (cov ly g.layout == 4) = false by simpa using hL]
      simp only [cond_false, gogeom_Bounds_Extend_g0, gogeom_Bounds_Extend_j0, gogeom_Bounds_Extend_b_g0, gogeom_Bounds_Extend_b_j0, gogeom_Bounds_Extend_c_g0, gogeom_Bounds_Extend_c_j0, gogeom_Bounds_Extend_d_g0, gogeom_Bounds_Extend_d_j0, gogeom_Bounds_Extend_e_g0, gogeom_Bounds_Extend_e_j0, gogeom_Bounds_Extend_f_g0, gogeom_Bounds_Extend_f_j0, gogeom_Bounds_Extend_h_g0, gogeom_Bounds_Extend_h_j0, gate_pos hN, dF (fun h => hL h.1), Option.bind_some, plain, gogeom_geom0_Layout_g, gogeom_geom0_Layout, gogeom_geom0_FlatCoords_b_g, gogeom_geom0_FlatCoords_b, gogeom_geom0_FlatCoords_c_g, gogeom_geom0_FlatCoords_c, gogeom_geom0_Stride_g, gogeom_geom0_Stride, gogeom_geom0_Layout_c_g, gogeom_geom0_Layout_c, gogeom_geom0_FlatCoords_d_g, gogeom_geom0_FlatCoords_d, gogeom_geom0_FlatCoords_e_g, gogeom_geom0_FlatCoords_e, gogeom_geom0_Stride_b_g, gogeom_geom0_Stride_b, gogeom_geom0_Layout_d_g, gogeom_geom0_Layout_d, gogeom_geom0_FlatCoords_f_g, gogeom_geom0_FlatCoords_f, gogeom_geom0_Stride_c_g, gogeom_geom0_Stride_c, gogeom_geom0_Layout_f_g, gogeom_geom0_Layout_f, gogeom_geom0_FlatCoords_h_g, gogeom_geom0_FlatCoords_h, gogeom_geom0_Stride_d_g, gogeom_geom0_Stride_d]
  · rw [e]
    simp only [Option.bind_some, show ((1 : Int) == 1) = true from rfl, show ((2 : Int) == 1) = false from rfl, show ((2 : Int) == 2) = true from rfl, show ((8 : Int) == 1) = false from rfl, show ((8 : Int) == 2) = false from rfl, show ((8 : Int) == 8) = true from rfl, show ((3 : Int) == 1) = false from rfl, show ((3 : Int) == 2) = false from rfl, show ((3 : Int) == 8) = false from rfl, show ((3 : Int) == 3) = true from rfl, show ((4 : Int) == 1) = false from rfl, show ((4 : Int) == 2) = false from rfl, show ((4 : Int) == 8) = false from rfl, show ((4 : Int) == 3) = false from rfl, show ((4 : Int) == 4) = true from rfl, show ((5 : Int) == 1) = false from rfl, show ((5 : Int) == 2) = false from rfl, show ((5 : Int) == 8) = false from rfl, show ((5 : Int) == 3) = false from rfl, show ((5 : Int) == 4) = false from rfl, show ((5 : Int) == 5) = true from rfl, show ((6 : Int) == 1) = false from rfl, show ((6 : Int) == 2) = false from rfl, show ((6 : Int) == 8) = false from rfl, show ((6 : Int) == 3) = false from rfl, show ((6 : Int) == 4) = false from rfl, show ((6 : Int) == 5) = false from rfl, show ((6 : Int) == 6) = true from rfl,
      cond_true, cond_false, gogeom_NewPointFlat_b, gogeom_NewPointFlat_b_g, gogeom_Point_SetSRID, gogeom_Point_SetSRID_g, gogeom_NewLineStringFlat_b, gogeom_NewLineStringFlat_b_g, gogeom_NewLinearRingFlat_b, gogeom_NewLinearRingFlat_b_g, gogeom_NewPolygonFlat_b, gogeom_NewPolygonFlat_b_g,
      gogeom_NewMultiLineStringFlat_b, gogeom_NewMultiLineStringFlat_b_g, gogeom_NewMultiPolygonFlat, gogeom_NewMultiPolygonFlat_g, gogeom_LineString_SetSRID, gogeom_LineString_SetSRID_g, gogeom_LinearRing_SetSRID, gogeom_LinearRing_SetSRID_g,
      gogeom_Polygon_SetSRID, gogeom_Polygon_SetSRID_g, gogeom_MultiLineString_SetSRID, gogeom_MultiLineString_SetSRID_g, gogeom_MultiPolygon_SetSRID, gogeom_MultiPolygon_SetSRID_g, gogeom_MultiPoint_SetSRID, gogeom_MultiPoint_SetSRID_g,
      gogeom_NewMultiPointFlatOptionWithEnds_b, gogeom_NewMultiPointFlatOptionWithEnds_b_g, gogeom_DoorBounds_b, gogeom_DoorBounds_b_g,
      stride_geom N g.layout l1.1, impl_ints, impl_ints_g, lim_le hends.1, intss hN hNl _ hends.2.1 hends.2.2, Sum.elim_inl, Sum.elim_inr, hS]
    simp only [gogeom_Bounds_Extend_g, gogeom_Bounds_Extend, gogeom_Bounds_Extend_b_g, gogeom_Bounds_Extend_b, gogeom_Bounds_Extend_c_g, gogeom_Bounds_Extend_c, gogeom_Bounds_Extend_d_g, gogeom_Bounds_Extend_d, gogeom_Bounds_Extend_e_g, gogeom_Bounds_Extend_e, gogeom_Bounds_Extend_f_g, gogeom_Bounds_Extend_f, gogeom_Bounds_Extend_h_g, gogeom_Bounds_Extend_h, hlay, Option.bind_some, gogeom_geom0_Layout_g, gogeom_geom0_Layout, gogeom_geom0_FlatCoords_b_g, gogeom_geom0_FlatCoords_b, gogeom_geom0_FlatCoords_c_g, gogeom_geom0_FlatCoords_c, gogeom_geom0_Stride_g, gogeom_geom0_Stride, gogeom_geom0_Layout_c_g, gogeom_geom0_Layout_c, gogeom_geom0_FlatCoords_d_g, gogeom_geom0_FlatCoords_d, gogeom_geom0_FlatCoords_e_g, gogeom_geom0_FlatCoords_e, gogeom_geom0_Stride_b_g, gogeom_geom0_Stride_b, gogeom_geom0_Layout_d_g, gogeom_geom0_Layout_d, gogeom_geom0_FlatCoords_f_g, gogeom_geom0_FlatCoords_f, gogeom_geom0_Stride_c_g, gogeom_geom0_Stride_c, gogeom_geom0_Layout_f_g, gogeom_geom0_Layout_f, gogeom_geom0_FlatCoords_h_g, gogeom_geom0_FlatCoords_h, gogeom_geom0_Stride_d_g, gogeom_geom0_Stride_d]
    by_cases hL : cov ly g.layout = 4
    · rw [show (cov ly g.layout == 4) = true by rw [hL]; rfl]
      simp only [cond_true]
      by_cases h3 : g.layout = 3
      · rw [show (g.layout == 3) = true by rw [h3]; rfl]
        simp only [cond_true, dX ⟨hL, h3⟩, Option.bind_some, plain]
      · rw [show (g.layout == 3) = false by simpa using h3]
        simp only [cond_false, gogeom_Bounds_Extend_g0, gogeom_Bounds_Extend_j0, gogeom_Bounds_Extend_b_g0, gogeom_Bounds_Extend_b_j0, gogeom_Bounds_Extend_c_g0, gogeom_Bounds_Extend_c_j0, gogeom_Bounds_Extend_d_g0, gogeom_Bounds_Extend_d_j0, gogeom_Bounds_Extend_e_g0, gogeom_Bounds_Extend_e_j0, gogeom_Bounds_Extend_f_g0, gogeom_Bounds_Extend_f_j0, gogeom_Bounds_Extend_h_g0, gogeom_Bounds_Extend_h_j0, gate_pos hN, dF (fun h => h3 h.2), Option.bind_some, plain, gogeom_geom0_Layout_g, gogeom_geom0_Layout, gogeom_geom0_FlatCoords_b_g, gogeom_geom0_FlatCoords_b, gogeom_geom0_FlatCoords_c_g, gogeom_geom0_FlatCoords_c, gogeom_geom0_Stride_g, gogeom_geom0_Stride, gogeom_geom0_Layout_c_g, gogeom_geom0_Layout_c, gogeom_geom0_FlatCoords_d_g, gogeom_geom0_FlatCoords_d, gogeom_geom0_FlatCoords_e_g, gogeom_geom0_FlatCoords_e, gogeom_geom0_Stride_b_g, gogeom_geom0_Stride_b, gogeom_geom0_Layout_d_g, gogeom_geom0_Layout_d, gogeom_geom0_FlatCoords_f_g, gogeom_geom0_FlatCoords_f, gogeom_geom0_Stride_c_g, gogeom_geom0_Stride_c, gogeom_geom0_Layout_f_g, gogeom_geom0_Layout_f, gogeom_geom0_FlatCoords_h_g, gogeom_geom0_FlatCoords_h, gogeom_geom0_Stride_d_g, gogeom_geom0_Stride_d]
    · rw [show (cov ly g.layout == 4) = false by simpa using hL]
      simp only [cond_false, gogeom_Bounds_Extend_g0, gogeom_Bounds_Extend_j0, gogeom_Bounds_Extend_b_g0, gogeom_Bounds_Extend_b_j0, gogeom_Bounds_Extend_c_g0, gogeom_Bounds_Extend_c_j0, gogeom_Bounds_Extend_d_g0, gogeom_Bounds_Extend_d_j0, gogeom_Bounds_Extend_e_g0, gogeom_Bounds_Extend_e_j0, gogeom_Bounds_Extend_f_g0, gogeom_Bounds_Extend_f_j0, gogeom_Bounds_Extend_h_g0, gogeom_Bounds_Extend_h_j0, gate_pos hN, dF (fun h => hL h.1), Option.bind_some, plain, gogeom_geom0_Layout_g, gogeom_geom0_Layout, gogeom_geom0_FlatCoords_b_g, gogeom_geom0_FlatCoords_b, gogeom_geom0_FlatCoords_c_g, gogeom_geom0_FlatCoords_c, gogeom_geom0_Stride_g, gogeom_geom0_Stride, gogeom_geom0_Layout_c_g, gogeom_geom0_Layout_c, gogeom_geom0_FlatCoords_d_g, gogeom_geom0_FlatCoords_d, gogeom_geom0_FlatCoords_e_g, gogeom_geom0_FlatCoords_e, gogeom_geom0_Stride_b_g, gogeom_geom0_Stride_b, gogeom_geom0_Layout_d_g, gogeom_geom0_Layout_d, gogeom_geom0_FlatCoords_f_g, gogeom_geom0_FlatCoords_f, gogeom_geom0_Stride_c_g, gogeom_geom0_Stride_c, gogeom_geom0_Layout_f_g, gogeom_geom0_Layout_f, gogeom_geom0_FlatCoords_h_g, gogeom_geom0_FlatCoords_h, gogeom_geom0_Stride_d_g, gogeom_geom0_Stride_d]
  · rw [e]
    simp only [Option.bind_some, show ((1 : Int) == 1) = true from rfl, show ((2 : Int) == 1) = false from rfl, show ((2 : Int) == 2) = true from rfl, show ((8 : Int) == 1) = false from rfl, show ((8 : Int) == 2) = false from rfl, show ((8 : Int) == 8) = true from rfl, show ((3 : Int) == 1) = false from rfl, show ((3 : Int) == 2) = false from rfl, show ((3 : Int) == 8) = false from rfl, show ((3 : Int) == 3) = true from rfl, show ((4 : Int) == 1) = false from rfl, show ((4 : Int) == 2) = false from rfl, show ((4 : Int) == 8) = false from rfl, show ((4 : Int) == 3) = false from rfl, show ((4 : Int) == 4) = true from rfl, show ((5 : Int) == 1) = false from rfl, show ((5 : Int) == 2) = false from rfl, show ((5 : Int) == 8) = false from rfl, show ((5 : Int) == 3) = false from rfl, show ((5 : Int) == 4) = false from rfl, show ((5 : Int) == 5) = true from rfl, show ((6 : Int) == 1) = false from rfl, show ((6 : Int) == 2) = false from rfl, show ((6 : Int) == 8) = false from rfl, show ((6 : Int) == 3) = false from rfl, show ((6 : Int) == 4) = false from rfl, show ((6 : Int) == 5) = false from rfl, show ((6 : Int) == 6) = true from rfl,
      cond_true, cond_false, gogeom_NewPointFlat_b, gogeom_NewPointFlat_b_g, gogeom_Point_SetSRID, gogeom_Point_SetSRID_g, gogeom_NewLineStringFlat_b, gogeom_NewLineStringFlat_b_g, gogeom_NewLinearRingFlat_b, gogeom_NewLinearRingFlat_b_g, gogeom_NewPolygonFlat_b, gogeom_NewPolygonFlat_b_g,
      gogeom_NewMultiLineStringFlat_b, gogeom_NewMultiLineStringFlat_b_g, gogeom_NewMultiPolygonFlat, gogeom_NewMultiPolygonFlat_g, gogeom_LineString_SetSRID, gogeom_LineString_SetSRID_g, gogeom_LinearRing_SetSRID, gogeom_LinearRing_SetSRID_g,
      gogeom_Polygon_SetSRID, gogeom_Polygon_SetSRID_g, gogeom_MultiLineString_SetSRID, gogeom_MultiLineString_SetSRID_g, gogeom_MultiPolygon_SetSRID, gogeom_MultiPolygon_SetSRID_g, gogeom_MultiPoint_SetSRID, gogeom_MultiPoint_SetSRID_g,
      gogeom_NewMultiPointFlatOptionWithEnds_b, gogeom_NewMultiPointFlatOptionWithEnds_b_g, gogeom_DoorBounds_b, gogeom_DoorBounds_b_g,
      stride_geom N g.layout l1.1, impl_ints, impl_ints_g, lim_le hends.1, intss hN hNl _ hends.2.1 hends.2.2, Sum.elim_inl, Sum.elim_inr, hS]
    simp only [gogeom_Bounds_Extend_g, gogeom_Bounds_Extend, gogeom_Bounds_Extend_b_g, gogeom_Bounds_Extend_b, gogeom_Bounds_Extend_c_g, gogeom_Bounds_Extend_c, gogeom_Bounds_Extend_d_g, gogeom_Bounds_Extend_d, gogeom_Bounds_Extend_e_g, gogeom_Bounds_Extend_e, gogeom_Bounds_Extend_f_g, gogeom_Bounds_Extend_f, gogeom_Bounds_Extend_h_g, gogeom_Bounds_Extend_h, hlay, Option.bind_some, gogeom_geom0_Layout_g, gogeom_geom0_Layout, gogeom_geom0_FlatCoords_b_g, gogeom_geom0_FlatCoords_b, gogeom_geom0_FlatCoords_c_g, gogeom_geom0_FlatCoords_c, gogeom_geom0_Stride_g, gogeom_geom0_Stride, gogeom_geom0_Layout_c_g, gogeom_geom0_Layout_c, gogeom_geom0_FlatCoords_d_g, gogeom_geom0_FlatCoords_d, gogeom_geom0_FlatCoords_e_g, gogeom_geom0_FlatCoords_e, gogeom_geom0_Stride_b_g, gogeom_geom0_Stride_b, gogeom_geom0_Layout_d_g, gogeom_geom0_Layout_d, gogeom_geom0_FlatCoords_f_g, gogeom_geom0_FlatCoords_f, gogeom_geom0_Stride_c_g, gogeom_geom0_Stride_c, gogeom_geom0_Layout_f_g, gogeom_geom0_Layout_f, gogeom_geom0_FlatCoords_h_g, gogeom_geom0_FlatCoords_h, gogeom_geom0_Stride_d_g, gogeom_geom0_Stride_d]
    by_cases hL : cov ly g.layout = 4
    · rw [show (cov ly g.layout == 4) = true by rw [hL]; rfl]
      simp only [cond_true]
      by_cases h3 : g.layout = 3
      · rw [show (g.layout == 3) = true by rw [h3]; rfl]
        simp only [cond_true, dX ⟨hL, h3⟩, Option.bind_some, plain]
      · rw [show (g.layout == 3) = false by simpa using h3]
        simp only [cond_false, gogeom_Bounds_Extend_g0, gogeom_Bounds_Extend_j0, gogeom_Bounds_Extend_b_g0, gogeom_Bounds_Extend_b_j0, gogeom_Bounds_Extend_c_g0, gogeom_Bounds_Extend_c_j0, gogeom_Bounds_Extend_d_g0, gogeom_Bounds_Extend_d_j0, gogeom_Bounds_Extend_e_g0, gogeom_Bounds_Extend_e_j0, gogeom_Bounds_Extend_f_g0, gogeom_Bounds_Extend_f_j0, gogeom_Bounds_Extend_h_g0, gogeom_Bounds_Extend_h_j0, gate_pos hN, dF (fun h => h3 h.2), Option.bind_some, plain, gogeom_geom0_Layout_g, gogeom_geom0_Layout, gogeom_geom0_FlatCoords_b_g, gogeom_geom0_FlatCoords_b, gogeom_geom0_FlatCoords_c_g, gogeom_geom0_FlatCoords_c, gogeom_geom0_Stride_g, gogeom_geom0_Stride, gogeom_geom0_Layout_c_g, gogeom_geom0_Layout_c, gogeom_geom0_FlatCoords_d_g, gogeom_geom0_FlatCoords_d, gogeom_geom0_FlatCoords_e_g, gogeom_geom0_FlatCoords_e, gogeom_geom0_Stride_b_g, gogeom_geom0_Stride_b, gogeom_geom0_Layout_d_g, gogeom_geom0_Layout_d, gogeom_geom0_FlatCoords_f_g, gogeom_geom0_FlatCoords_f, gogeom_geom0_Stride_c_g, gogeom_geom0_Stride_c, gogeom_geom0_Layout_f_g, gogeom_geom0_Layout_f, gogeom_geom0_FlatCoords_h_g, gogeom_geom0_FlatCoords_h, gogeom_geom0_Stride_d_g, gogeom_geom0_Stride_d]
    · rw [show (cov ly g.layout == 4) = false by simpa using hL]
      simp only [cond_false, gogeom_Bounds_Extend_g0, gogeom_Bounds_Extend_j0, gogeom_Bounds_Extend_b_g0, gogeom_Bounds_Extend_b_j0, gogeom_Bounds_Extend_c_g0, gogeom_Bounds_Extend_c_j0, gogeom_Bounds_Extend_d_g0, gogeom_Bounds_Extend_d_j0, gogeom_Bounds_Extend_e_g0, gogeom_Bounds_Extend_e_j0, gogeom_Bounds_Extend_f_g0, gogeom_Bounds_Extend_f_j0, gogeom_Bounds_Extend_h_g0, gogeom_Bounds_Extend_h_j0, gate_pos hN, dF (fun h => hL h.1), Option.bind_some, plain, gogeom_geom0_Layout_g, gogeom_geom0_Layout, gogeom_geom0_FlatCoords_b_g, gogeom_geom0_FlatCoords_b, gogeom_geom0_FlatCoords_c_g, gogeom_geom0_FlatCoords_c, gogeom_geom0_Stride_g, gogeom_geom0_Stride, gogeom_geom0_Layout_c_g, gogeom_geom0_Layout_c, gogeom_geom0_FlatCoords_d_g, gogeom_geom0_FlatCoords_d, gogeom_geom0_FlatCoords_e_g, gogeom_geom0_FlatCoords_e, gogeom_geom0_Stride_b_g, gogeom_geom0_Stride_b, gogeom_geom0_Layout_d_g, gogeom_geom0_Layout_d, gogeom_geom0_FlatCoords_f_g, gogeom_geom0_FlatCoords_f, gogeom_geom0_Stride_c_g, gogeom_geom0_Stride_c, gogeom_geom0_Layout_f_g, gogeom_geom0_Layout_f, gogeom_geom0_FlatCoords_h_g, gogeom_geom0_FlatCoords_h, gogeom_geom0_Stride_d_g, gogeom_geom0_Stride_d]
theorem EX_vb {ly gl : Int} {mn mx flat : List Nat} (hb : Vb ly mn mx) (hgl : 1 ≤ gl ∧ gl ≤ 4) (hv : ∀ k, k < flat.length → isnan (flat.getD k 0) = false) : Vb (EX ly gl mn mx flat).1 (EX ly gl mn mx flat).2.1 (EX ly gl mn mx flat).2.2.1 := by
  obtain ⟨f1, f2, f3, f4, f5⟩ := cov_facts hb.lay hgl
  exact ⟨⟨f1, f2⟩, (runP_ok _ (prs_ok hN hNl hb.lay hgl hv) (ext_vb hN hNl hb hgl)).1⟩
theorem again {ly gl : Int} {mn mx flat : List Nat} (hb : Vb ly mn mx) (hgl : 1 ≤ gl ∧ gl ≤ 4) (hv : ∀ k, k < flat.length → isnan (flat.getD k 0) = false) :
    (EX (EX ly gl mn mx flat).1 gl (EX ly gl mn mx flat).2.1 (EX ly gl mn mx flat).2.2.1 flat).1 = (EX ly gl mn mx flat).1 ∧
    ∀ k, k < (strd (cov ly gl)).toNat → ikey ((EX (EX ly gl mn mx flat).1 gl (EX ly gl mn mx flat).2.1 (EX ly gl mn mx flat).2.2.1 flat).2.1.getD k 0) = ikey ((EX ly gl mn mx flat).2.1.getD k 0) ∧
      ikey ((EX (EX ly gl mn mx flat).1 gl (EX ly gl mn mx flat).2.1 (EX ly gl mn mx flat).2.2.1 flat).2.2.1.getD k 0) = ikey ((EX ly gl mn mx flat).2.2.1.getD k 0) := by
  obtain ⟨f1, f2, f3, f4, f5⟩ := cov_facts hb.lay hgl
  have h1 := runP_ok _ (prs_ok hN hNl hb.lay hgl hv) (ext_vb hN hNl hb hgl)
  have h2 := runP_ok _ (prs_ok hN hNl hb.lay hgl hv) h1.1
  have e : EX (EX ly gl mn mx flat).1 gl (EX ly gl mn mx flat).2.1 (EX ly gl mn mx flat).2.2.1 flat = (cov ly gl, (runP (prs (cov ly gl) gl flat) (runP (prs (cov ly gl) gl flat) (ext ly gl INF mn, ext ly gl NINF mx))).1, (runP (prs (cov ly gl) gl flat) (runP (prs (cov ly gl) gl flat) (ext ly gl INF mn, ext ly gl NINF mx))).2, ()) := by
    show EX (cov ly gl) gl _ _ flat = _
    unfold EX
    rw [f4, f5, f5]
  rw [e]
  exact ⟨rfl, fun k hk => h2.2.2.2 h1.2.2.1 k hk⟩
theorem sameBox2 (lay : Int) (n : Nat) (l m l' m' : List Nat) (hn : n ≤ 100) (a : OK n (l, m)) (b : OK n (l', m')) (h : ∀ k, k < n → ikey (l'.getD k 0) = ikey (l.getD k 0) ∧ ikey (m'.getD k 0) = ikey (m.getD k 0)) : spec_SameBox N (lay, l, m, ()) (lay, l', m', ()) = some true := by
  have a1 := a.l1
  have a2 := a.l2
  have a3 := b.l1
  have a4 := b.l2
  simp only at a1 a2 a3 a4
  unfold spec_SameBox spec_SameBox_g
  simp only [bne_self_eq_false, cond_false, spec_SameBox_j0, spec_SameBox_g0, gate_pos hN]
  rw [show ((l.length : Int) != (l'.length : Int)) = false by simp; omega, show ((m.length : Int) != (m'.length : Int)) = false by simp; omega, show ((l.length : Int) != (m.length : Int)) = false by simp; omega]
  simp only [cond_false]
  rcases checkLoop0 (xs := l) (L := fun n i => spec_SameBox_l1 N n (lay, l, m, ()) (lay, l', m', ()) i) (e := fun _ => False) (fin := some true) (fun _ => True)
    (fun n => by
      simp only [spec_SameBox_l1, spec_SameBox_g1, Bool.cond_decide]
      rw [if_neg (by omega)])
    (fun n i hi => by
      right
      simp only [spec_SameBox_l1, spec_SameBox_g1, Bool.cond_decide]
      rw [if_pos (by omega), nth_get hi, nth_get (show i < l'.length by omega), nth_get (show i < m.length by omega), nth_get (show i < m'.length by omega), succ_in hi (by omega)]
      simp only [Option.bind_some]
      have k := h i (by omega)
      have v1 := a.v1 i (by omega)
      have v2 := a.v2 i (by omega)
      have v3 := b.v1 i (by omega)
      have v4 := b.v2 i (by omega)
      simp only at v1 v2 v3 v4
      rw [getD_at hi, getD_at (show i < l'.length by omega), getD_at (show i < m.length by omega), getD_at (show i < m'.length by omega), fne_eq, fne_eq, v1, v2, v3, v4, k.1, k.2]
      simp) N (by omega) with h | ⟨h, _⟩
  · exact h.elim
  · exact h
theorem small_tot (g : Geo) (hd : dep g ≤ N) (hw : wfG g) (b : Bool) (h : laws_gGood N [g] = some b) : ∃ c, laws_gSmall N [g] = some c := by
  unfold laws_gGood laws_gGood_g at h
  cases hs : laws_gSmall N [g] with
  | none => rw [hs] at h; cases h
  | some c => exact ⟨c, rfl⟩
theorem each_tot (g : Geo) (hk : g.kids = []) (hl : g.flat.length ≤ 2147483647) : ∃ t, laws_gEach N N g = some t ∧ (t = true → ∀ x ∈ g.flat, isnan x = false) := by
  obtain ⟨d, hd⟩ : ∃ m, N = m + 1 := ⟨N - 1, by omega⟩
  rw [show laws_gEach N N = laws_gEach N (d + 1) by rw [← hd]]
  have h0 : laws_gEach_l1 N (laws_gEach N d) N g 0 = some true := by
    have e : ∀ m, laws_gEach_l1 N (laws_gEach N d) (m + 1) g 0 = some true := by
      intro m
      simp only [laws_gEach_l1, laws_gEach_g1, Bool.cond_decide, hk]
      rw [if_neg (by simp)]
    rw [hd]; exact hd ▸ e d
  simp only [laws_gEach, laws_gEach_g]
  rcases checkLoop0 (xs := g.flat) (L := fun n i => laws_gEach_l0 N (laws_gEach N d) n g i) (e := fun o => o = some false) (fin := some true) (fun x => isnan x = false)
    (fun n => by
      simp only [laws_gEach_l0, laws_gEach_g0, Bool.cond_decide]
      rw [if_neg (by omega), h0])
    (fun n i hi => by
      simp only [laws_gEach_l0, laws_gEach_g0, Bool.cond_decide, laws_gNumber, laws_gNumber_g]
      rw [if_pos (by omega), nth_get hi, succ_in hi (by omega)]
      simp only [Option.bind_some, feq_self]
      cases hn : isnan g.flat[i] with
      | true => exact .inl rfl
      | false => exact .inr ⟨rfl, rfl⟩) N (by omega) with h | ⟨h, hq⟩
  · exact ⟨false, h, fun h => by cases h⟩
  · exact ⟨true, h, fun _ => hq⟩
theorem bAdds_tot (g : Geo) (hd : dep g ≤ N) (hw : wfG g) (hl : g.flat.length ≤ 2147483647) : ∃ b, laws_bAdds N [g] = some b ∧ (b = true → GoodF g ∧ 1 ≤ g.layout ∧ g.layout ≤ 4 ∧ ∀ x ∈ g.flat, isnan x = false) := by
  obtain ⟨n, hn⟩ : ∃ m, N = m + 1 := ⟨N - 1, by omega⟩
  obtain ⟨gb, hg, hgg⟩ := gGood_one hN hNl g hd hw
  have hp : laws_gPlain N g = some (bif gb then g.kind != 7 else false) := by
    unfold laws_gPlain laws_gPlain_g
    rw [eta, hg]
    cases gb <;> rfl
  obtain ⟨sb, hs⟩ := small_tot hN hNl g hd hw gb hg
  have e2 : laws_bAdds_l0 N n [g] 1 = some sb := by
    obtain ⟨m, rfl⟩ : ∃ m, n = m + 1 := ⟨n - 1, by omega⟩
    simp only [laws_bAdds_l0, laws_bAdds_g0, Bool.cond_decide]
    rw [if_neg (by simp), hs]
    rfl
  unfold laws_bAdds laws_bAdds_g
  rw [show laws_bAdds_l0 N N = laws_bAdds_l0 N (n + 1) by rw [← hn]]
  simp only [laws_bAdds_l0, laws_bAdds_g0, laws_bAdds_j1, laws_bAdds_g1, gate_pos hN, Bool.cond_decide]
  rw [if_pos (by simp), show nth [g] 0 = some g from rfl]
  simp only [Option.bind_some, eta]
  rw [hp]
  simp only [Option.bind_some]
  cases gb with
  | false => exact ⟨false, rfl, fun h => by cases h⟩
  | true =>
  simp only [cond_true]
  cases k7 : (g.kind != 7) with
  | false => exact ⟨false, rfl, fun h => by cases h⟩
  | true =>
  simp only [Bool.not_true, cond_false]
  have h7 : g.kind ≠ 7 := by simpa using k7
  obtain ⟨gf, l1, l9⟩ := hgg rfl h7
  obtain ⟨lb, hlb, hll⟩ := layouts_tot hN hNl N g 4 hd hw
  rw [hlb]
  simp only [Option.bind_some]
  cases lb with
  | false => exact ⟨false, rfl, fun h => by cases h⟩
  | true =>
  simp only [Bool.not_true, cond_false]
  obtain ⟨eb, heb, hee⟩ := each_tot hN hNl g gf.kids hl
  rw [heb]
  simp only [Option.bind_some]
  cases eb with
  | false => exact ⟨false, rfl, fun h => by cases h⟩
  | true =>
  simp only [Bool.not_true, cond_false]
  rw [show IntKind.i64.wrap (0 + 1) = 1 by decide, e2]
  exact ⟨sb, rfl, fun _ => ⟨gf, l1, (hll rfl).1, hee rfl⟩⟩
theorem law (b : Bx) (g : Geo) (hd : dep g ≤ N) (hw : wfG g) : laws_FnBoxExtendAgain N b g = some true := by
  obtain ⟨ly, mn, mx, _⟩ := b
  unfold laws_FnBoxExtendAgain laws_FnBoxExtendAgain_g
  simp only [eta, laws_FnBoxExtendAgain_j0, laws_FnBoxExtendAgain_g0, gate_pos hN]
  simp only [laws_zzFits1, laws_zzFits1_g, Bool.cond_decide]
  by_cases c1 : (mn.length : Int) > 2147483647
  · rw [if_pos c1]; rfl
  by_cases c2 : (mx.length : Int) > 2147483647
  · rw [if_neg c1, if_pos c2]; rfl
  rw [if_neg c1, if_neg c2]
  simp only [Option.bind_some, Bool.not_true, cond_false]
  obtain ⟨fb, hf, hff⟩ := fits2 hN hNl g hw
  rw [hf]
  simp only [Option.bind_some]
  cases fb with
  | false => rfl
  | true =>
  simp only [Bool.not_true, cond_false]
  obtain ⟨bb, hbb, hbx⟩ := bBox1 hN hNl (ly, mn, mx, ()) (by simp only; omega) (by simp only; omega)
  rw [hbb]
  simp only [Option.bind_some]
  cases bb with
  | false => rfl
  | true =>
  simp only [Bool.not_true, cond_false]
  by_cases c4 : ly > 4
  · rw [if_pos c4]
  rw [if_neg c4]
  have hl := (hff rfl).1
  obtain ⟨ab, hab, haa⟩ := bAdds_tot hN hNl g hd hw hl
  rw [hab]
  simp only [Option.bind_some]
  cases ab with
  | false => rfl
  | true =>
  simp only [Bool.not_true, cond_false]
  obtain ⟨gf, l1, l4, hnn⟩ := haa rfl
  have hv : ∀ k, k < g.flat.length → isnan (g.flat.getD k 0) = false := fun k hk => by rw [← getD_at hk]; exact hnn _ (List.getElem_mem hk)
  obtain ⟨ly0, x1, x2, x3⟩ := hbx rfl
  simp only at ly0 x1 x2 x3
  have a := strd_nn ly
  have vb : Vb ly mn mx := ⟨⟨ly0, by omega⟩, ⟨by simp only; omega, by simp only; omega, fun k hk => by
    obtain ⟨x, y, e1, e2, e3, e4⟩ := x3 k (by omega)
    simp only [List.getD_eq_getElem?_getD, e1]; exact e3, fun k hk => by
    obtain ⟨x, y, e1, e2, e3, e4⟩ := x3 k (by omega)
    simp only [List.getD_eq_getElem?_getD, e2]; exact e4⟩⟩
  rw [ext_of hN hNl g hw gf ⟨l1, l4⟩ hl hv vb]
  simp only [Option.bind_some]
  have vb2 := EX_vb hN hNl (flat := g.flat) vb ⟨l1, l4⟩ hv
  have e2 := ext_of hN hNl g hw gf ⟨l1, l4⟩ hl hv vb2
  rw [e2]
  simp only [Option.bind_some, cond_true]
  have ag := again hN hNl (flat := g.flat) vb ⟨l1, l4⟩ hv
  have vb3 := EX_vb hN hNl (flat := g.flat) vb2 ⟨l1, l4⟩ hv
  rw [ag.1]
  have hb5 : strd (cov ly g.layout) ≤ 9 := by
    have := (cov_facts vb.lay ⟨l1, l4⟩)
    unfold strd; repeat' split
    all_goals omega
  have ok3 := vb3.ok
  rw [ag.1] at ok3
  exact (congrArg (fun o : Option Bool => o.bind fun v9 => some v9) (sameBox2 hN hNl _ (strd (cov ly g.layout)).toNat _ _ _ _ (by omega) vb2.ok ok3 ag.2)).trans rfl
end
end Go.Proofs.Ytjabjnkiddldeaa.PvExt
