/- Putting lists of lists of places in a row: the plain law. -/
import Derived.Test.YtgipjhgnnppjgaaFD
import Derived.Test.YtgipjhgnnppjgaaPv2
set_option linter.unusedVariables false
set_option linter.unusedSectionVars false
set_option linter.unusedSimpArgs false
set_option linter.unusedSectionVars false
namespace Go.Proofs.Ytgipjhgnnppjgaa.PvDeflate3
open Go.Av Go
open Go.Proofs.Ytgipjhgnnppjgaa.FD
theorem take_snoc {α : Type} {xs : List α} {i : Nat} (h : i < xs.length) : xs.take (i + 1) = xs.take i ++ [xs[i]] := by
  rw [List.take_add_one, List.getElem?_eq_getElem h]; rfl
theorem mem_len {α : Type} {x : List α} : ∀ {xs : List (List α)}, x ∈ xs → x.length ≤ xs.flatten.length
  | y :: r, h => by
    rw [List.flatten_cons, List.length_append]
    rcases List.mem_cons.1 h with rfl | h
    · omega
    · have := mem_len h; omega
theorem mem_len2 {α : Type} {x : List (List α)} {xs : List (List (List α))} (h : x ∈ xs) : x.flatten.length ≤ xs.flatten.flatten.length := by
  rw [List.flatten_flatten]
  exact mem_len (List.mem_map_of_mem h)
theorem mem_len3 {α : Type} {x : List (List (List α))} {xs : List (List (List (List α)))} (h : x ∈ xs) : x.flatten.flatten.length ≤ xs.flatten.flatten.flatten.length := by
  rw [show xs.flatten.flatten = (xs.map List.flatten).flatten from List.flatten_flatten]
  exact mem_len2 (List.mem_map_of_mem h)
theorem take_len {α : Type} {xs : List (List α)} {i : Nat} (h : i < xs.length) : (xs.take i).flatten.length + xs[i].length ≤ xs.flatten.length := by
  have e := congrArg (fun z => z.flatten.length) (List.take_append_drop (i + 1) xs)
  simp only [take_snoc h, List.flatten_append, List.length_append, List.flatten_cons, List.flatten_nil, List.append_nil] at e
  omega
theorem take_len2 {α : Type} {xs : List (List (List α))} {i : Nat} (h : i < xs.length) : (xs.take i).flatten.flatten.length + xs[i].flatten.length ≤ xs.flatten.flatten.length := by
  have e := congrArg (fun z => z.flatten.flatten.length) (List.take_append_drop (i + 1) xs)
  simp only [take_snoc h, List.flatten_append, List.length_append, List.flatten_cons, List.flatten_nil, List.append_nil] at e
  omega
theorem take_len3 {α : Type} {xs : List (List (List (List α)))} {i : Nat} (h : i < xs.length) : (xs.take i).flatten.flatten.flatten.length + xs[i].flatten.flatten.length ≤ xs.flatten.flatten.flatten.length := by
  have e := congrArg (fun z => z.flatten.flatten.flatten.length) (List.take_append_drop (i + 1) xs)
  simp only [take_snoc h, List.flatten_append, List.length_append, List.flatten_cons, List.flatten_nil, List.append_nil] at e
  omega
def S2 (l : List (List Nat)) : Prop := l.length ≤ 4294967296 ∧ l.flatten.length ≤ 4294967296
def S3 (a : List (List (List Nat))) : Prop := a.length ≤ 4294967296 ∧ a.flatten.length ≤ 4294967296 ∧ a.flatten.flatten.length ≤ 4294967296
def S4 (c : List (List (List (List Nat)))) : Prop := c.length ≤ 4294967296 ∧ c.flatten.length ≤ 4294967296 ∧ c.flatten.flatten.length ≤ 4294967296 ∧ c.flatten.flatten.flatten.length ≤ 4294967296
theorem S3.mem {a : List (List (List Nat))} (h : S3 a) {l : List (List Nat)} (hl : l ∈ a) : S2 l := by
  have := mem_len hl; have := mem_len2 hl
  obtain ⟨_, _, _⟩ := h
  exact ⟨by omega, by omega⟩
theorem S4.mem {c : List (List (List (List Nat)))} (h : S4 c) {a : List (List (List Nat))} (ha : a ∈ c) : S3 a := by
  have := mem_len ha; have := mem_len2 ha; have := mem_len3 ha
  obtain ⟨_, _, _, _⟩ := h
  exact ⟨by omega, by omega, by omega⟩
theorem S2.mem {l : List (List Nat)} (h : S2 l) {p : List Nat} (hp : p ∈ l) : p.length ≤ 4294967296 := by
  have := mem_len hp
  obtain ⟨_, _⟩ := h
  omega
/-- All places of a list have s numbers. -/
def ok2 (s : Int) (l : List (List Nat)) : Bool := l.all fun p => (p.length : Int) == s
def ok3 (s : Int) (a : List (List (List Nat))) : Bool := a.all (ok2 s)
def ok4 (s : Int) (c : List (List (List (List Nat)))) : Bool := c.all (ok3 s)
/-- The end behind each list. -/
def tails : Nat → List (List (List Nat)) → List Int
  | _, [] => []
  | o, l :: r => ((o + l.flatten.length : Nat) : Int) :: tails (o + l.flatten.length) r
theorem tails_snoc (x : List (List Nat)) : ∀ (o : Nat) (a : List (List (List Nat))), tails o (a ++ [x]) = tails o a ++ [((o + a.flatten.flatten.length + x.flatten.length : Nat) : Int)]
  | o, [] => by simp [tails]
  | o, l :: r => by
    simp only [List.cons_append, tails, tails_snoc x _ r, List.flatten_cons, List.flatten_append, List.length_append]
    rw [show o + l.flatten.length + r.flatten.flatten.length + x.flatten.length = o + (l.flatten.length + r.flatten.flatten.length) + x.flatten.length by omega]
def tailss : Nat → List (List (List (List Nat))) → List (List Int)
  | _, [] => []
  | o, a :: r => tails o a :: tailss (o + a.flatten.flatten.length) r
theorem tailss_snoc (x : List (List (List Nat))) : ∀ (o : Nat) (c : List (List (List (List Nat)))), tailss o (c ++ [x]) = tailss o c ++ [tails (o + c.flatten.flatten.flatten.length) x]
  | o, [] => by simp [tailss]
  | o, a :: r => by
    simp only [List.cons_append, tailss, tailss_snoc x _ r, List.flatten_cons, List.flatten_append, List.length_append]
    rw [show o + a.flatten.flatten.length + r.flatten.flatten.flatten.length = o + (a.flatten.flatten.length + r.flatten.flatten.flatten.length) by omega]
theorem tails_len (o : Nat) : ∀ (a : List (List (List Nat))), (tails o a).length = a.length := fun a => by
  induction a generalizing o with
  | nil => rfl
  | cons l r ih => simp [tails, ih]
theorem tailss_len (o : Nat) : ∀ (c : List (List (List (List Nat)))), (tailss o c).length = c.length := fun c => by
  induction c generalizing o with
  | nil => rfl
  | cons l r ih => simp [tailss, ih]
theorem ok2_snoc (s : Int) (l : List (List Nat)) (p : List Nat) : ok2 s (l ++ [p]) = (ok2 s l && ((p.length : Int) == s)) := by simp [ok2]
theorem ok3_snoc (s : Int) (l : List (List (List Nat))) (p : List (List Nat)) : ok3 s (l ++ [p]) = (ok3 s l && ok2 s p) := by simp [ok3]
theorem ok4_snoc (s : Int) (l : List (List (List (List Nat)))) (p : List (List (List Nat))) : ok4 s (l ++ [p]) = (ok4 s l && ok3 s p) := by simp [ok4]
def strd (l : Int) : Int := if l < 1 then 0 else if l = 1 then 2 else if l = 2 then 3 else if l = 3 then 3 else l
theorem stride_spec (N : Nat) (l : Int) : spec_Stride N l = some (strd l) := by
  simp only [spec_Stride, spec_Stride_g, strd, beq_iff_eq, decide_eq_true_eq, Bool.cond_eq_ite, apply_ite some]
theorem layout_spec (N : Nat) (s : Int) (h : 2 ≤ s) : ∃ lay, laws_fLayout N s = some lay ∧ strd lay = s := by
  unfold laws_fLayout laws_fLayout_g
  by_cases h2 : s = 2
  · subst h2; exact ⟨1, rfl, rfl⟩
  · by_cases h3 : s = 3
    · subst h3; exact ⟨2, rfl, rfl⟩
    · have b2 : (s == 2) = false := by simpa using h2
      have b3 : (s == 3) = false := by simpa using h3
      rw [b2, b3]
      refine ⟨s, rfl, ?_⟩
      unfold strd
      rw [if_neg (by omega), if_neg (by omega), if_neg (by omega), if_neg (by omega)]
section
variable {N : Nat} (hN : 0 < N) (hNl : 9223372036854775808 ≤ N)
include hN hNl
theorem fits4 (l : List (List Nat)) (h : l.length ≤ 4294967296) : ∃ b, laws_zzFits4 N l = some b := by
  unfold laws_zzFits4 laws_zzFits4_g
  by_cases h1 : (l.length : Int) > 2147483647
  · simp only [Bool.cond_decide]; rw [if_pos h1]; exact ⟨_, rfl⟩
  · simp only [Bool.cond_decide]; rw [if_neg h1]
    rcases checkLoop0 (xs := l) (L := fun n i => laws_zzFits4_l0 N n l i) (e := fun o => ∃ b, o = some b) (fin := some true) (fun _ => True)
      (fun n => by
        simp only [laws_zzFits4_l0, laws_zzFits4_g0, Bool.cond_decide]
        rw [if_neg (by omega)])
      (fun n i hi => by
        simp only [laws_zzFits4_l0, laws_zzFits4_g0, Bool.cond_decide]
        rw [if_pos (by omega), nth_get hi, succ_in hi (by omega)]
        simp only [Option.bind_some]
        by_cases h2 : ((l[i].length : Int)) > 2147483647
        · rw [if_pos h2]; exact .inl ⟨_, rfl⟩
        · rw [if_neg h2]; exact .inr ⟨rfl, trivial⟩) N (by omega) with h2 | h2
    · exact h2
    · exact ⟨true, h2.1⟩
theorem fits5 (l : List (List (List Nat))) (hl : S3 l) : ∃ b, laws_zzFits5 N l = some b := by
  unfold laws_zzFits5 laws_zzFits5_g
  have h : l.length ≤ 4294967296 := hl.1
  by_cases h1 : (l.length : Int) > 2147483647
  · simp only [Bool.cond_decide]; rw [if_pos h1]; exact ⟨_, rfl⟩
  · simp only [Bool.cond_decide]; rw [if_neg h1]
    rcases checkLoop0 (xs := l) (L := fun n i => laws_zzFits5_l0 N n l i) (e := fun o => ∃ b, o = some b) (fin := some true) (fun _ => True)
      (fun n => by
        simp only [laws_zzFits5_l0, laws_zzFits5_g0, Bool.cond_decide]
        rw [if_neg (by omega)])
      (fun n i hi => by
        obtain ⟨b, hb⟩ := fits4 hN hNl l[i] (hl.mem (List.getElem_mem hi)).1
        simp only [laws_zzFits5_l0, laws_zzFits5_g0, Bool.cond_decide]
        rw [if_pos (by omega), nth_get hi, succ_in hi (by omega)]
        simp only [Option.bind_some, hb]
        cases b with
        | false => exact .inl ⟨_, rfl⟩
        | true => exact .inr ⟨rfl, trivial⟩) N (by omega) with h2 | h2
    · exact h2
    · exact ⟨true, h2.1⟩
theorem fits6 (l : List (List (List (List Nat)))) (hl : S4 l) : ∃ b, laws_zzFits6 N l = some b := by
  unfold laws_zzFits6 laws_zzFits6_g
  have h : l.length ≤ 4294967296 := hl.1
  by_cases h1 : (l.length : Int) > 2147483647
  · simp only [Bool.cond_decide]; rw [if_pos h1]; exact ⟨_, rfl⟩
  · simp only [Bool.cond_decide]; rw [if_neg h1]
    rcases checkLoop0 (xs := l) (L := fun n i => laws_zzFits6_l0 N n l i) (e := fun o => ∃ b, o = some b) (fin := some true) (fun _ => True)
      (fun n => by
        simp only [laws_zzFits6_l0, laws_zzFits6_g0, Bool.cond_decide]
        rw [if_neg (by omega)])
      (fun n i hi => by
        obtain ⟨b, hb⟩ := fits5 hN hNl l[i] (hl.mem (List.getElem_mem hi))
        simp only [laws_zzFits6_l0, laws_zzFits6_g0, Bool.cond_decide]
        rw [if_pos (by omega), nth_get hi, succ_in hi (by omega)]
        simp only [Option.bind_some, hb]
        cases b with
        | false => exact .inl ⟨_, rfl⟩
        | true => exact .inr ⟨rfl, trivial⟩) N (by omega) with h2 | h2
    · exact h2
    · exact ⟨true, h2.1⟩
theorem count (c : List (List (List (List Nat)))) (hc : S4 c) : ∃ v, laws_gCount N c = some v := by
  unfold laws_gCount laws_gCount_g
  have hc1 : c.length ≤ 4294967296 := hc.1
  rcases stateLoop0 (xs := c) (L := fun n i st => laws_gCount_l0 N n c st i) (e := fun _ => False) (fin := fun st => some st) (fun _ _ => True)
    (fun n st _ => by
      simp only [laws_gCount_l0, laws_gCount_g0, Bool.cond_decide]
      rw [if_neg (by omega)])
    (fun n i st hi _ => by
      right
      simp only [laws_gCount_l0, laws_gCount_g0, Bool.cond_decide]
      rw [if_pos (by omega), nth_get hi]
      simp only [Option.bind_some]
      have ha := hc.mem (List.getElem_mem hi)
      have ha1 : c[i].length ≤ 4294967296 := ha.1
      rcases stateLoop0 (xs := c[i]) (L := fun m j st => laws_gCount_l1 N (laws_gCount_l0 N n c) c m i c[i] st j) (e := fun _ => False) (fin := fun st => laws_gCount_l0 N n c st (IntKind.i64.wrap ((i : Int) + 1))) (fun _ _ => True)
        (fun n st _ => by
          simp only [laws_gCount_l1, laws_gCount_g1, Bool.cond_decide]
          rw [if_neg (by omega)])
        (fun m j st hj _ => by
          right
          simp only [laws_gCount_l1, laws_gCount_g1, Bool.cond_decide]
          rw [if_pos (by omega), nth_get hj]
          simp only [Option.bind_some]
          have hl := ha.mem (List.getElem_mem hj)
          have hl1 : c[i][j].length ≤ 4294967296 := hl.1
          rcases stateLoop0 (xs := c[i][j]) (L := fun q k st => laws_gCount_l2 N (laws_gCount_l1 N (laws_gCount_l0 N n c) c m i c[i]) (laws_gCount_l0 N n c) c i c[i] q j c[i][j] st k) (e := fun _ => False) (fin := fun st => laws_gCount_l1 N (laws_gCount_l0 N n c) c m i c[i] st (IntKind.i64.wrap ((j : Int) + 1))) (fun _ _ => True)
            (fun n st _ => by
              simp only [laws_gCount_l2, laws_gCount_g2, Bool.cond_decide]
              rw [if_neg (by omega)])
            (fun q k st hk _ => by
              right
              simp only [laws_gCount_l2, laws_gCount_g2, Bool.cond_decide]
              rw [if_pos (by omega), nth_get hk, succ_in hk (by omega)]
              exact ⟨_, rfl, trivial⟩) N (IntKind.i64.wrap (st + (c[i][j].length : Int))) (by omega) trivial with h | ⟨st', h, _⟩
          · exact h.elim
          · exact ⟨st', by rw [h, succ_in hj (by omega)], trivial⟩) N (IntKind.i64.wrap (st + (c[i].length : Int))) (by omega) trivial with h | ⟨st', h, _⟩
      · exact h.elim
      · exact ⟨st', by rw [h, succ_in hi (by omega)], trivial⟩) N (c.length : Int) (by omega) trivial with h | ⟨st', h, _⟩
  · exact h.elim
  · exact ⟨st', h⟩
theorem coords (c : List (List (List (List Nat)))) (hc : S4 c) : ∃ v, laws_fCoords N c = some v := by
  obtain ⟨cv, hcv⟩ := count hN hNl c hc
  unfold laws_fCoords laws_fCoords_g
  have hc1 : c.length ≤ 4294967296 := hc.1
  rcases checkLoop0 (xs := c) (L := fun n i => laws_fCoords_l0 N n c i) (e := fun o => ∃ b, o = some b) (fin := some (decide (cv ≤ 2000))) (fun _ => True)
    (fun n => by
      simp only [laws_fCoords_l0, laws_fCoords_g0, Bool.cond_decide]
      rw [if_neg (by omega), hcv]; rfl)
    (fun n i hi => by
      simp only [laws_fCoords_l0, laws_fCoords_g0, Bool.cond_decide]
      rw [if_pos (by omega), nth_get hi]
      simp only [Option.bind_some]
      have ha := hc.mem (List.getElem_mem hi)
      have ha1 : c[i].length ≤ 4294967296 := ha.1
      rcases checkLoop0 (xs := c[i]) (L := fun m j => laws_fCoords_l1 N (laws_fCoords_l0 N n c) c m i c[i] j) (e := fun o => ∃ b, o = some b) (fin := laws_fCoords_l0 N n c (IntKind.i64.wrap ((i : Int) + 1))) (fun _ => True)
        (fun n => by
          simp only [laws_fCoords_l1, laws_fCoords_g1, Bool.cond_decide]
          rw [if_neg (by omega)])
        (fun m j hj => by
          simp only [laws_fCoords_l1, laws_fCoords_g1, Bool.cond_decide]
          rw [if_pos (by omega), nth_get hj]
          simp only [Option.bind_some]
          have hl := ha.mem (List.getElem_mem hj)
          have hl1 : c[i][j].length ≤ 4294967296 := hl.1
          rcases checkLoop0 (xs := c[i][j]) (L := fun q k => laws_fCoords_l2 N (laws_fCoords_l1 N (laws_fCoords_l0 N n c) c m i c[i]) (laws_fCoords_l0 N n c) c i c[i] q j c[i][j] k) (e := fun o => ∃ b, o = some b) (fin := laws_fCoords_l1 N (laws_fCoords_l0 N n c) c m i c[i] (IntKind.i64.wrap ((j : Int) + 1))) (fun _ => True)
            (fun n => by
              simp only [laws_fCoords_l2, laws_fCoords_g2, Bool.cond_decide]
              rw [if_neg (by omega)])
            (fun q k hk => by
              simp only [laws_fCoords_l2, laws_fCoords_g2, Bool.cond_decide]
              rw [if_pos (by omega), nth_get hk, succ_in hk (by omega)]
              simp only [Option.bind_some]
              cases ((c[i][j][k].length : Int) == 0) with
              | true => exact .inl ⟨_, rfl⟩
              | false => exact .inr ⟨rfl, trivial⟩) N (by omega) with h | ⟨h, _⟩
          · exact .inl h
          · exact .inr ⟨by rw [h, succ_in hj (by omega)], trivial⟩) N (by omega) with h | ⟨h, _⟩
      · exact .inl h
      · exact .inr ⟨by rw [h, succ_in hi (by omega)], trivial⟩) N (by omega) with h | ⟨h, _⟩
  · exact h
  · exact ⟨_, h⟩
theorem gflat {lay s : Int} (hs : strd lay = s) (l : List (List Nat)) (hl : S2 l) : laws_gFlat N lay false l = some (l.flatten, [], ok2 s l, ()) := by
  unfold laws_gFlat laws_gFlat_g
  obtain ⟨h1, h2⟩ := hl
  rcases stateLoop0 (xs := l) (L := fun n i (st : Bool × List Nat) => laws_gFlat_l0 N n lay false l st.1 i st.2 []) (e := fun _ => False) (fin := fun st => some (st.2, [], st.1, ()))
    (fun i st => st = (ok2 s (l.take i), (l.take i).flatten))
    (fun n st _ => by
      simp only [laws_gFlat_l0, laws_gFlat_g0, Bool.cond_decide]
      rw [if_neg (by omega)])
    (fun n i st hi hp => by
      right
      subst hp
      have hl := take_len hi
      simp only [laws_gFlat_l0, laws_gFlat_g0, laws_gFlat_j1, laws_gFlat_g1, gate_pos hN, Bool.cond_decide]
      rw [if_pos (by omega), nth_get hi]
      simp only [Option.bind_some, stride_spec, hs, cond_false]
      rw [lim_le (n := ((l.take i).flatten.length + l[i].length) * 8) (by omega), succ_in hi (by omega)]
      simp only [Option.bind_some]
      refine ⟨(ok2 s (l.take (i + 1)), (l.take (i + 1)).flatten), ?_, rfl⟩
      rw [take_snoc hi, ok2_snoc]
      simp only [List.flatten_append, List.flatten_cons, List.flatten_nil, List.append_nil]
      cases ok2 s (l.take i) with
      | false => rfl
      | true => cases ((l[i].length : Int) == s) <;> rfl) N (true, []) (by omega) rfl with h | ⟨st, h, hp⟩
  · exact h.elim
  · have h' : laws_gFlat_l0 N N lay false l true 0 [] [] = _ := h
    rw [h', hp, List.take_length]
theorem gflats {lay s : Int} (hs : strd lay = s) (a : List (List (List Nat))) (ha : S3 a) (o : Nat) (ho : o ≤ 4294967296) : laws_gFlats N lay (o : Int) a = some (a.flatten.flatten, tails o a, ok3 s a, ()) := by
  unfold laws_gFlats laws_gFlats_g
  have h1 : a.length ≤ 4294967296 := ha.1
  have h2 : a.flatten.flatten.length ≤ 4294967296 := ha.2.2
  rcases stateLoop0 (xs := a) (L := fun n i (st : Bool × List Nat × List Int) => laws_gFlats_l0 N n lay (o : Int) a st.1 i st.2.1 st.2.2) (e := fun _ => False) (fin := fun st => some (st.2.1, st.2.2, st.1, ()))
    (fun i st => st = (ok3 s (a.take i), (a.take i).flatten.flatten, tails o (a.take i)))
    (fun n st _ => by
      simp only [laws_gFlats_l0, laws_gFlats_g0, Bool.cond_decide]
      rw [if_neg (by omega)])
    (fun n i st hi hp => by
      right
      subst hp
      have hl := take_len2 hi
      have hm := ha.mem (List.getElem_mem hi)
      simp only [laws_gFlats_l0, laws_gFlats_g0, laws_gFlats_j1, laws_gFlats_g1, gate_pos hN, Bool.cond_decide]
      rw [if_pos (by omega), nth_get hi]
      simp only [Option.bind_some, gflat hN hNl hs _ hm]
      rw [lim_le (n := ((a.take i).flatten.flatten.length + a[i].flatten.length) * 8) (by omega), succ_in hi (by omega)]
      simp only [Option.bind_some, List.length_append, tails_len, List.length_take, List.length_cons, List.length_nil]
      rw [lim_le (by omega), wrap_in (by omega)]
      simp only [Option.bind_some]
      refine ⟨(ok3 s (a.take (i + 1)), (a.take (i + 1)).flatten.flatten, tails o (a.take (i + 1))), ?_, rfl⟩
      rw [take_snoc hi, ok3_snoc, tails_snoc]
      simp only [List.flatten_append, List.flatten_cons, List.flatten_nil, List.append_nil]
      rw [show (o : Int) + (((a.take i).flatten.flatten.length + a[i].flatten.length : Nat) : Int) = ((o + (a.take i).flatten.flatten.length + a[i].flatten.length : Nat) : Int) by omega]
      cases ok3 s (a.take i) with
      | false => rfl
      | true => rfl) N (true, [], []) (by omega) rfl with h | ⟨st, h, hp⟩
  · exact h.elim
  · have h' : laws_gFlats_l0 N N lay (o : Int) a true 0 [] [] = _ := h
    rw [h', hp, List.take_length]
theorem coords1 (l : List (List Nat)) (hl : S2 l) : impl_coords1 N l = some (l, ()) := by
  unfold impl_coords1 impl_coords1_g
  have h1 : l.length ≤ 4294967296 := hl.1
  rcases stateLoop0 (xs := l) (L := fun n i st => impl_coords1_l0 N n l i st) (e := fun _ => False) (fin := fun st => some (st, ())) (fun i st => st = l.take i)
    (fun n st _ => by
      simp only [impl_coords1_l0, impl_coords1_g0, Bool.cond_decide]
      rw [if_neg (by omega)])
    (fun n i st hi hp => by
      right
      subst hp
      have hm := hl.mem (List.getElem_mem hi)
      simp only [impl_coords1_l0, impl_coords1_g0, impl_floats, impl_floats_g, Bool.cond_decide]
      rw [if_pos (by omega), nth_get hi, succ_in hi (by omega)]
      simp only [Option.bind_some]
      rw [lim_le (by omega)]
      simp only [Option.bind_some, List.length_take, List.length_cons, List.length_nil]
      rw [lim_le (by omega)]
      exact ⟨l.take (i + 1), by rw [take_snoc hi]; rfl, rfl⟩) N [] (by omega) rfl with h | ⟨st, h, hp⟩
  · exact h.elim
  · rw [h, hp, List.take_length]
theorem coords2 (l : List (List (List Nat))) (hl : S3 l) : impl_coords2 N l = some (l, ()) := by
  unfold impl_coords2 impl_coords2_g
  have h1 : l.length ≤ 4294967296 := hl.1
  rcases stateLoop0 (xs := l) (L := fun n i st => impl_coords2_l0 N n l i st) (e := fun _ => False) (fin := fun st => some (st, ())) (fun i st => st = l.take i)
    (fun n st _ => by
      simp only [impl_coords2_l0, impl_coords2_g0, Bool.cond_decide]
      rw [if_neg (by omega)])
    (fun n i st hi hp => by
      right
      subst hp
      have hm := hl.mem (List.getElem_mem hi)
      simp only [impl_coords2_l0, impl_coords2_g0, Bool.cond_decide]
      rw [if_pos (by omega), nth_get hi, succ_in hi (by omega)]
      simp only [Option.bind_some, coords1 hN hNl _ hm, List.length_take, List.length_cons, List.length_nil]
      rw [lim_le (by omega)]
      exact ⟨l.take (i + 1), by rw [take_snoc hi]; rfl, rfl⟩) N [] (by omega) rfl with h | ⟨st, h, hp⟩
  · exact h.elim
  · rw [h, hp, List.take_length]
theorem coords3 (l : List (List (List (List Nat)))) (hl : S4 l) : impl_coords3 N l = some (l, ()) := by
  unfold impl_coords3 impl_coords3_g
  have h1 : l.length ≤ 4294967296 := hl.1
  rcases stateLoop0 (xs := l) (L := fun n i st => impl_coords3_l0 N n l i st) (e := fun _ => False) (fin := fun st => some (st, ())) (fun i st => st = l.take i)
    (fun n st _ => by
      simp only [impl_coords3_l0, impl_coords3_g0, Bool.cond_decide]
      rw [if_neg (by omega)])
    (fun n i st hi hp => by
      right
      subst hp
      have hm := hl.mem (List.getElem_mem hi)
      simp only [impl_coords3_l0, impl_coords3_g0, Bool.cond_decide]
      rw [if_pos (by omega), nth_get hi, succ_in hi (by omega)]
      simp only [Option.bind_some, coords2 hN hNl _ hm, List.length_take, List.length_cons, List.length_nil]
      rw [lim_le (by omega)]
      exact ⟨l.take (i + 1), by rw [take_snoc hi]; rfl, rfl⟩) N [] (by omega) rfl with h | ⟨st, h, hp⟩
  · exact h.elim
  · rw [h, hp, List.take_length]
theorem deflate1 (s : Int) (flat : List Nat) (l : List (List Nat)) (hl : S2 l) (hf : flat.length ≤ 4294967296) :
    (ok2 s l = false ∧ ∃ q, gogeom_deflate1 N flat l s = some (Sum.inr (Sum.inl ([], q, ())))) ∨ (gogeom_deflate1 N flat l s = some (Sum.inr (Sum.inr (flat ++ l.flatten, (), ()))) ∧ ok2 s l = true) := by
  unfold gogeom_deflate1 gogeom_deflate1_g
  obtain ⟨h1, h2⟩ := hl
  rcases stateLoop0 (xs := l) (L := fun n i st => gogeom_deflate1_l0 N n s l i st) (e := fun o => ok2 s l = false ∧ ∃ q, o = some (Sum.inr (Sum.inl ([], q, ())))) (fin := fun st => some (Sum.inr (Sum.inr (st, (), ()))))
    (fun i st => st = flat ++ (l.take i).flatten ∧ ok2 s (l.take i) = true)
    (fun n st _ => by
      simp only [gogeom_deflate1_l0, gogeom_deflate1_g0, Bool.cond_decide]
      rw [if_neg (by omega)])
    (fun n i st hi hp => by
      obtain ⟨rfl, hp⟩ := hp
      have hl := take_len hi
      simp only [gogeom_deflate1_l0, gogeom_deflate1_g0, gogeom_deflate0, gogeom_deflate0_g, Bool.cond_decide]
      rw [if_pos (by omega), nth_get hi]
      simp only [Option.bind_some]
      cases h3 : ((l[i].length : Int) != s) with
      | true =>
        left
        refine ⟨?_, _, rfl⟩
        unfold ok2
        rw [List.all_eq_false]
        exact ⟨l[i], List.getElem_mem hi, by simpa using h3⟩
      | false =>
        right
        simp only [cond_false]
        rw [lim_le (by rw [List.length_append]; omega), succ_in hi (by omega)]
        refine ⟨flat ++ (l.take (i + 1)).flatten, ?_, rfl, ?_⟩
        · rw [take_snoc hi]
          simp only [List.flatten_append, List.flatten_cons, List.flatten_nil, List.append_nil, List.append_assoc, Option.bind_some, Sum.elim_inr]
        · rw [take_snoc hi, ok2_snoc, hp]; simpa using h3) N flat (by omega) ⟨by simp, rfl⟩ with h | ⟨st, h, hp, hq⟩
  · exact .inl h
  · right
    rw [List.take_length] at hp hq
    exact ⟨by rw [h, hp], hq⟩
theorem deflate2 (s : Int) (flat : List Nat) (a : List (List (List Nat))) (ha : S3 a) (hf : flat.length + a.flatten.flatten.length ≤ 4294967296) :
    (ok3 s a = false ∧ ∃ q, gogeom_deflate2 N flat [] a s = some (Sum.inr (Sum.inr (Sum.inl ([], [], q, ()))))) ∨ (gogeom_deflate2 N flat [] a s = some (Sum.inr (Sum.inr (Sum.inr (flat ++ a.flatten.flatten, tails flat.length a, (), ())))) ∧ ok3 s a = true) := by
  unfold gogeom_deflate2 gogeom_deflate2_g
  have h1 : a.length ≤ 4294967296 := ha.1
  rcases stateLoop0 (xs := a) (L := fun n i (st : List Nat × List Int) => gogeom_deflate2_l0 N n s a i st.1 st.2) (e := fun o => ok3 s a = false ∧ ∃ q, o = some (Sum.inr (Sum.inr (Sum.inl ([], [], q, ()))))) (fin := fun st => some (Sum.inr (Sum.inr (Sum.inr (st.1, st.2, (), ())))))
    (fun i st => st = (flat ++ (a.take i).flatten.flatten, tails flat.length (a.take i)) ∧ ok3 s (a.take i) = true)
    (fun n st _ => by
      simp only [gogeom_deflate2_l0, gogeom_deflate2_g0, Bool.cond_decide]
      rw [if_neg (by omega)])
    (fun n i st hi hp => by
      obtain ⟨rfl, hp⟩ := hp
      have hl := take_len2 hi
      have hm := ha.mem (List.getElem_mem hi)
      simp only [gogeom_deflate2_l0, gogeom_deflate2_g0, gogeom_deflate2_j1, gogeom_deflate2_g1, gate_pos hN, Bool.cond_decide]
      rw [if_pos (by omega), nth_get hi]
      simp only [Option.bind_some]
      rcases deflate1 hN hNl s (flat ++ (a.take i).flatten.flatten) a[i] hm (by rw [List.length_append]; omega) with ⟨h3, q, h4⟩ | ⟨h4, h3⟩
      · left
        rw [h4]
        refine ⟨?_, _, rfl⟩
        unfold ok3
        rw [List.all_eq_false]
        exact ⟨a[i], List.getElem_mem hi, by rw [h3]; decide⟩
      · right
        rw [h4]
        simp only [Option.bind_some, Sum.elim_inr]
        rw [lim_le (by simp only [tails_len, List.length_take, List.length_cons, List.length_nil]; omega), succ_in hi (by omega)]
        refine ⟨(flat ++ (a.take (i + 1)).flatten.flatten, tails flat.length (a.take (i + 1))), ?_, rfl, ?_⟩
        · rw [take_snoc hi, tails_snoc]
          simp only [List.flatten_append, List.flatten_cons, List.flatten_nil, List.append_nil, List.append_assoc, Option.bind_some, List.length_append, Nat.add_assoc]
        · rw [take_snoc hi, ok3_snoc, hp, h3]; rfl) N (flat, []) (by omega) ⟨by simp [tails], rfl⟩ with h | ⟨st, h, hp, hq⟩
  · exact .inl h
  · right
    rw [List.take_length] at hp hq
    have h' : gogeom_deflate2_l0 N N s a 0 flat [] = _ := h
    exact ⟨by rw [h', hp], hq⟩
theorem deflate3 (s : Int) (c : List (List (List (List Nat)))) (hc : S4 c) :
    (ok4 s c = false ∧ ∃ q, gogeom_deflate3 N [] [] c s = some (Sum.inr (Sum.inr (Sum.inl ([], [], q, ()))))) ∨ (gogeom_deflate3 N [] [] c s = some (Sum.inr (Sum.inr (Sum.inr (c.flatten.flatten.flatten, tailss 0 c, (), ())))) ∧ ok4 s c = true) := by
  unfold gogeom_deflate3 gogeom_deflate3_g
  have h1 : c.length ≤ 4294967296 := hc.1
  have h2 : c.flatten.flatten.flatten.length ≤ 4294967296 := hc.2.2.2
  rcases stateLoop0 (xs := c) (L := fun n i (st : List Nat × List (List Int)) => gogeom_deflate3_l0 N n s c i st.1 st.2) (e := fun o => ok4 s c = false ∧ ∃ q, o = some (Sum.inr (Sum.inr (Sum.inl ([], [], q, ()))))) (fin := fun st => some (Sum.inr (Sum.inr (Sum.inr (st.1, st.2, (), ())))))
    (fun i st => st = ((c.take i).flatten.flatten.flatten, tailss 0 (c.take i)) ∧ ok4 s (c.take i) = true)
    (fun n st _ => by
      simp only [gogeom_deflate3_l0, gogeom_deflate3_g0, Bool.cond_decide]
      rw [if_neg (by omega)])
    (fun n i st hi hp => by
      obtain ⟨rfl, hp⟩ := hp
      have hl := take_len3 hi
      have hm := hc.mem (List.getElem_mem hi)
      simp only [gogeom_deflate3_l0, gogeom_deflate3_g0, gogeom_deflate3_j1, gogeom_deflate3_g1, gate_pos hN, Bool.cond_decide]
      rw [if_pos (by omega), nth_get hi]
      simp only [Option.bind_some]
      rcases deflate2 hN hNl s ((c.take i).flatten.flatten.flatten) c[i] hm (by omega) with ⟨h3, q, h4⟩ | ⟨h4, h3⟩
      · left
        rw [h4]
        refine ⟨?_, _, rfl⟩
        unfold ok4
        rw [List.all_eq_false]
        exact ⟨c[i], List.getElem_mem hi, by rw [h3]; decide⟩
      · right
        rw [h4]
        simp only [Option.bind_some, Sum.elim_inr]
        rw [lim_le (by simp only [tailss_len, List.length_take, List.length_cons, List.length_nil]; omega), succ_in hi (by omega)]
        refine ⟨((c.take (i + 1)).flatten.flatten.flatten, tailss 0 (c.take (i + 1))), ?_, rfl, ?_⟩
        · rw [take_snoc hi, tailss_snoc]
          simp only [List.flatten_append, List.flatten_cons, List.flatten_nil, List.append_nil, List.append_assoc, Option.bind_some, List.length_append, Nat.zero_add]
        · rw [take_snoc hi, ok4_snoc, hp, h3]; rfl) N ([], []) (by omega) ⟨rfl, rfl⟩ with h | ⟨st, h, hp, hq⟩
  · exact .inl h
  · right
    rw [List.take_length] at hp hq
    have h' : gogeom_deflate3_l0 N N s c 0 [] [] = _ := h
    exact ⟨by rw [h', hp], hq⟩
theorem intss (e : List (List Int)) (h1 : e.length ≤ 4294967296) (h2 : ∀ l ∈ e, l.length ≤ 4294967296) : impl_intss N e = some (e, ()) := by
  unfold impl_intss impl_intss_g
  rcases stateLoop0 (xs := e) (L := fun n i st => impl_intss_l0 N n e i st) (e := fun _ => False) (fin := fun st => some (st, ())) (fun i st => st = e.take i)
    (fun n st _ => by
      simp only [impl_intss_l0, impl_intss_g0, Bool.cond_decide]
      rw [if_neg (by omega)])
    (fun n i st hi hp => by
      right
      subst hp
      have hm := h2 _ (List.getElem_mem hi)
      simp only [impl_intss_l0, impl_intss_g0, impl_ints, impl_ints_g, Bool.cond_decide]
      rw [if_pos (by omega), nth_get hi, succ_in hi (by omega)]
      simp only [Option.bind_some]
      rw [lim_le (by omega)]
      simp only [Option.bind_some, List.length_take, List.length_cons, List.length_nil]
      rw [lim_le (by omega)]
      exact ⟨e.take (i + 1), by rw [take_snoc hi]; rfl, rfl⟩) N [] (by omega) rfl with h | ⟨st, h, hp⟩
  · exact h.elim
  · rw [h, hp, List.take_length]
theorem tailss_mem {e : List Int} : ∀ {c : List (List (List (List Nat)))} {o : Nat}, e ∈ tailss o c → ∃ a ∈ c, e.length = a.length
  | a :: r, o, h => by
    simp only [tailss] at h
    rcases List.mem_cons.1 h with rfl | h
    · exact ⟨a, List.mem_cons_self, tails_len _ _⟩
    · obtain ⟨b, h1, h2⟩ := tailss_mem h
      exact ⟨b, List.mem_cons_of_mem _ h1, h2⟩
theorem implDeflate3 (s : Int) (c : List (List (List (List Nat)))) (hc : S4 c) :
    (ok4 s c = false ∧ impl_Deflate3 N c s = some ([], [], false, ())) ∨ (impl_Deflate3 N c s = some (c.flatten.flatten.flatten, tailss 0 c, true, ()) ∧ ok4 s c = true) := by
  have h1 : c.length ≤ 4294967296 := hc.1
  have h2 : c.flatten.flatten.flatten.length ≤ 4294967296 := hc.2.2.2
  unfold impl_Deflate3 impl_Deflate3_g gogeom_DoorDeflate3 gogeom_DoorDeflate3_g
  rw [coords3 hN hNl c hc]
  simp only [Option.bind_some]
  rcases deflate3 hN hNl s c hc with ⟨h3, q, h4⟩ | ⟨h4, h3⟩
  · left
    refine ⟨h3, ?_⟩
    rw [h4]
    simp only [Option.bind_some, Sum.elim_inr, Sum.elim_inl, intss hN hNl [] (by decide) (fun l h => by simp at h), impl_floats, impl_floats_g]
    rw [lim_le (by decide)]
    rfl
  · right
    refine ⟨?_, h3⟩
    rw [h4]
    simp only [Option.bind_some, Sum.elim_inr, Sum.elim_inl, impl_floats, impl_floats_g]
    rw [lim_le (by omega), intss hN hNl (tailss 0 c) (by rw [tailss_len]; omega) (fun l hl => by
      obtain ⟨a, ha, e⟩ := tailss_mem hN hNl hl
      rw [e]; exact (hc.mem ha).1)]
    rfl
theorem same (x : List Nat) (hx : x.length ≤ 4294967296) : spec_SameFloats N x x = some true := by
  unfold spec_SameFloats spec_SameFloats_g
  simp only [bne_self_eq_false, cond_false]
  rcases checkLoop0 (xs := x) (L := fun n i => spec_SameFloats_l0 N n x x i) (e := fun _ => False) (fin := some true) (fun _ => True)
    (fun n => by
      simp only [spec_SameFloats_l0, spec_SameFloats_g0, Bool.cond_decide]
      rw [if_neg (by omega)])
    (fun n i hi => by
      right
      simp only [spec_SameFloats_l0, spec_SameFloats_g0, math_Float64bits, Bool.cond_decide]
      rw [if_pos (by omega), nth_get hi, succ_in hi (by omega)]
      simp) N (by omega) with h | ⟨h, _⟩
  · exact h.elim
  · exact h
theorem sameInts (x : List Int) (hx : x.length ≤ 4294967296) : laws_gInts N x x = some true := by
  unfold laws_gInts laws_gInts_g
  simp only [bne_self_eq_false, cond_false]
  rcases checkLoop0 (xs := x) (L := fun n i => laws_gInts_l0 N n x x i) (e := fun _ => False) (fin := some true) (fun _ => True)
    (fun n => by
      simp only [laws_gInts_l0, laws_gInts_g0, Bool.cond_decide]
      rw [if_neg (by omega)])
    (fun n i hi => by
      right
      simp only [laws_gInts_l0, laws_gInts_g0, Bool.cond_decide]
      rw [if_pos (by omega), nth_get hi, succ_in hi (by omega)]
      simp) N (by omega) with h | ⟨h, _⟩
  · exact h.elim
  · exact h
theorem sameIntss (x : List (List Int)) (hx : x.length ≤ 4294967296) (h2 : ∀ l ∈ x, l.length ≤ 4294967296) : laws_gIntss N x x = some true := by
  unfold laws_gIntss laws_gIntss_g
  simp only [bne_self_eq_false, cond_false]
  rcases checkLoop0 (xs := x) (L := fun n i => laws_gIntss_l0 N n x x i) (e := fun _ => False) (fin := some true) (fun _ => True)
    (fun n => by
      simp only [laws_gIntss_l0, laws_gIntss_g0, Bool.cond_decide]
      rw [if_neg (by omega)])
    (fun n i hi => by
      right
      simp only [laws_gIntss_l0, laws_gIntss_g0, Bool.cond_decide]
      rw [if_pos (by omega), nth_get hi, succ_in hi (by omega)]
      simp [sameInts hN hNl _ (h2 _ (List.getElem_mem hi))]) N (by omega) with h | ⟨h, _⟩
  · exact h.elim
  · exact h
theorem law (c : List (List (List (List Nat)))) (s : Int) (hc : S4 c) : laws_FnDeflate3 N c s = some true := by
  obtain ⟨b1, e1⟩ := fits6 hN hNl c hc
  obtain ⟨b2, e2⟩ := coords hN hNl c hc
  have h1 : c.length ≤ 4294967296 := hc.1
  have h2 : c.flatten.flatten.flatten.length ≤ 4294967296 := hc.2.2.2
  unfold laws_FnDeflate3 laws_FnDeflate3_g
  rw [e1]
  simp only [Option.bind_some]
  cases b1 with
  | false => rfl
  | true =>
    simp only [Bool.not_true, cond_false, laws_fStride, laws_fStride_g, Bool.cond_decide]
    by_cases hs : s ≥ 2
    · rw [if_pos hs]
      simp only [Option.bind_some]
      by_cases hs9 : s ≤ 9
      · rw [decide_eq_true hs9, e2]
        simp only [Bool.not_true, cond_false, Option.bind_some]
        cases b2 with
        | false => rfl
        | true =>
          simp only [Bool.not_true, cond_false]
          obtain ⟨lay, hlay, hst⟩ := layout_spec N s hs
          have one : impl_Deflate3 N ([([([([4607182418800017408, 4611686018427387904] : List Nat)] : List (List Nat))] : List (List (List Nat)))] : List (List (List (List Nat)))) 2 = some ([4607182418800017408, 4611686018427387904], [[2]], true, ()) := by
            rcases implDeflate3 hN hNl 2 [[[[4607182418800017408, 4611686018427387904]]]] ⟨by decide, by decide, by decide, by decide⟩ with ⟨h, _⟩ | ⟨h, _⟩
            · exact absurd h (by decide)
            · exact h
          have fin : ∀ (b : Bool), b = ok4 s c → ((impl_Deflate3 N c s).bind fun v17 => ((impl_Deflate3 N ([([([([4607182418800017408, 4611686018427387904] : List Nat)] : List (List Nat))] : List (List (List Nat)))] : List (List (List (List Nat)))) 2).bind fun v18 => (bif v18.2.2.1 then (bif (v17.2.2.1 == b) then (bif (!v17.2.2.1) then (some true) else ((spec_SameFloats N v17.1 c.flatten.flatten.flatten).bind fun v19 => bif v19 then ((laws_gIntss N v17.2.1 (tailss 0 c)).bind fun v20 => (some v20)) else (some false))) else (some false)) else (some false)))) = some true := by
            intro b hb
            subst hb
            rw [one]
            simp only [Option.bind_some, cond_true]
            rcases implDeflate3 hN hNl s c hc with ⟨h3, h4⟩ | ⟨h4, h3⟩
            · rw [h4, h3]; rfl
            · rw [h4, h3]
              simp only [Option.bind_some, beq_self_eq_true, cond_true, Bool.not_true, cond_false, same hN hNl _ h2]
              rw [sameIntss hN hNl (tailss 0 c) (by rw [tailss_len]; omega) (fun l hl => by
                obtain ⟨a, ha, e⟩ := tailss_mem hN hNl hl
                rw [e]; exact (hc.mem ha).1)]
              rfl
          rcases stateLoop0 (xs := c) (L := fun n i (st : Bool × List Nat × List (List Int)) => laws_FnDeflate3_l0 N n c s st.1 i st.2.1 st.2.2) (e := fun _ => False) (fin := fun _ => some true)
            (fun i st => st = (ok4 s (c.take i), (c.take i).flatten.flatten.flatten, tailss 0 (c.take i)))
            (fun n st hp => by
              rw [List.take_length] at hp
              subst hp
              simp only [laws_FnDeflate3_l0, laws_FnDeflate3_g0, Bool.cond_decide]
              rw [if_neg (by omega)]
              exact fin _ rfl)
            (fun n i st hi hp => by
              right
              subst hp
              have hl := take_len3 hi
              have hm := hc.mem (List.getElem_mem hi)
              simp only [laws_FnDeflate3_l0, laws_FnDeflate3_g0, laws_FnDeflate3_j1, laws_FnDeflate3_g1, gate_pos hN, Bool.cond_decide]
              rw [if_pos (by omega), nth_get hi]
              simp only [Option.bind_some, hlay, gflats hN hNl hst _ hm _ (show (c.take i).flatten.flatten.flatten.length ≤ 4294967296 by omega)]
              rw [lim_le (by omega)]
              simp only [Option.bind_some]
              rw [lim_le (by simp only [tailss_len, List.length_take, List.length_cons, List.length_nil]; omega), succ_in hi (by omega)]
              refine ⟨(ok4 s (c.take (i + 1)), (c.take (i + 1)).flatten.flatten.flatten, tailss 0 (c.take (i + 1))), ?_, rfl⟩
              rw [take_snoc hi, ok4_snoc, tailss_snoc]
              simp only [List.flatten_append, List.flatten_cons, List.flatten_nil, List.append_nil, Option.bind_some, Nat.zero_add]
              cases ok4 s (c.take i) with
              | false => rfl
              | true => rfl) N (true, [], []) (by omega) rfl with h | ⟨st, h, _⟩
          · exact h.elim
          · exact h
      · rw [decide_eq_false hs9]; rfl
    · rw [if_neg hs]; rfl
end
end Go.Proofs.Ytgipjhgnnppjgaa.PvDeflate3
