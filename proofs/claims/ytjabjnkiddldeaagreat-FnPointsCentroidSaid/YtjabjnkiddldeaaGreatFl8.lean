/- The lesser and the greater of two numbers that are none of them NaN (infinite ones too). -/
import Derived.Test.YtjabjnkiddldeaaGreatFl7
set_option linter.unusedVariables false
set_option linter.unusedSimpArgs false
set_option linter.unusedSectionVars false
namespace Go.Av
open Go
theorem c_lt {a b : Int} (h : a < b) : compare a b = .lt := by rw [icmp, if_pos h]
theorem c_eq {a b : Int} (h : a = b) : compare a b = .eq := by rw [icmp, if_neg (by omega), if_pos h]
theorem c_gt {a b : Int} (h : b < a) : compare a b = .gt := by rw [icmp, if_neg (by omega), if_neg (by omega)]
theorem key_bound {x : Nat} (h : isnan x = false) : -9218868437227405312 ≤ ikey x ∧ ikey x ≤ 9218868437227405312 := by
  have : ¬ 9218868437227405312 < rung x := by simpa [isnan] using h
  unfold ikey
  split <;> omega
theorem key_inf {x : Nat} (h : isnan x = false) (hf : fin x = false) : ikey x = if sgn x then -9218868437227405312 else 9218868437227405312 := by
  have h1 : ¬ 9218868437227405312 < rung x := by simpa [isnan] using h
  have h2 : ¬ rung x < 9218868437227405312 := by simpa [fin] using hf
  have : rung x = 9218868437227405312 := by omega
  unfold ikey
  rw [this]; rfl
theorem read_inf {x : Nat} (h : isnan x = false) (hf : fin x = false) : Ieee.double.read x = .infinity (sgn x) := by
  rw [read_eq, h, hf]; rfl
theorem order_iff {x y : Nat} (hx : isnan x = false) (hy : isnan y = false) : Ieee.double.order x y = some (compare (ikey x) (ikey y)) := by
  rw [order_key, hx, hy]; rfl
theorem inf_word (s : Bool) : isnan (Ieee.double.write (.infinity s)) = false ∧ ikey (Ieee.double.write (.infinity s)) = if s then -9218868437227405312 else 9218868437227405312 := by
  cases s <;> decide +kernel
theorem zero_key {x : Nat} {m : Nat} {i : Int} (hf : fin x = true) (hr : Ieee.double.read x = .number (sgn x) m i) (h0 : m = 0) : ikey x = 0 := by
  obtain ⟨m', i', hr', hz⟩ := read_fin hf
  rw [hr] at hr'
  simp only [Ieee.Datum.number.injEq] at hr'
  have : fv x = 0 := hz.1 (hr'.2.1 ▸ h0)
  have z : fv x = fv 0 := by rw [this, wh_zero.2]; rfl
  rw [fv_inj] at z
  exact z
/-- One of the two is picked; where the order decides, by the order. -/
theorem fpick_gen {neg : Bool} {win : Ordering} {x y : Nat} (hx : isnan x = false) (hy : isnan y = false) (hw : win ≠ .eq)
    (hex : ∀ z, isnan z = false → fin z = false → sgn z = neg → ∀ u, isnan u = false → (compare (ikey z) (ikey u) = win ∨ ikey z = ikey u) ∧ (compare (ikey u) (ikey z) ≠ win)) :
    isnan (fpick neg win x y) = false ∧ ikey (fpick neg win x y) = if compare (ikey x) (ikey y) = win then ikey x else ikey y := by
  have ho := order_iff hx hy
  unfold Ieee.Format.order at ho
  unfold fpick
  have zz : ∀ m i s, (Ieee.Datum.number s m i).isZero = true ↔ m = 0 := by
    intro m i s; cases m <;> simp [Ieee.Datum.isZero]
  have ceq : ∀ a : Int, compare a a ≠ win := by
    intro a h; apply hw; rw [← h]; simp
  have tail : ∀ (b : Bool), (b = true → ikey x = 0 ∧ ikey y = 0) → ∀ (c : Bool), isnan (if b = true then (if c = true then x else y) else if (some (compare (ikey x) (ikey y)) == some win) = true then x else y) = false ∧
      ikey (if b = true then (if c = true then x else y) else if (some (compare (ikey x) (ikey y)) == some win) = true then x else y) = if compare (ikey x) (ikey y) = win then ikey x else ikey y := by
    intro b hb c
    cases b with
    | true =>
      obtain ⟨e1, e2⟩ := hb rfl
      rw [if_pos rfl]
      refine ⟨by cases c <;> simp [hx, hy], ?_⟩
      rw [e1, e2, ite_self]
      cases c <;> simp [e1, e2]
    | false =>
      rw [if_neg (by decide)]
      by_cases h : compare (ikey x) (ikey y) = win
      · have : (some (compare (ikey x) (ikey y)) == some win) = true := by simp [h]
        rw [if_pos this, if_pos h]; exact ⟨hx, rfl⟩
      · have : ¬ (some (compare (ikey x) (ikey y)) == some win) = true := by simp [h]
        rw [if_neg this, if_neg h]; exact ⟨hy, rfl⟩
  have inft : ∀ s : Bool, (Ieee.Datum.infinity s == Ieee.Datum.infinity neg) = decide (s = neg) := by
    intro s; cases s <;> cases neg <;> rfl
  have numt : ∀ s m i, (Ieee.Datum.number s m i == Ieee.Datum.infinity neg) = false := fun _ _ _ => rfl
  have iw := inf_word neg
  cases fx : fin x with
  | true =>
    obtain ⟨m1, i1, r1, z1⟩ := read_fin fx
    cases fy : fin y with
    | true =>
      obtain ⟨m2, i2, r2, z2⟩ := read_fin fy
      rw [r1, r2] at ho ⊢
      simp only [numt, Bool.or_self, Bool.false_eq_true, if_false, Ieee.Datum.isNaN, ho]
      refine tail _ (fun h => ?_) _
      simp only [Bool.and_eq_true, zz] at h
      exact ⟨zero_key fx r1 h.1, zero_key fy r2 h.2⟩
    | false =>
      have r2 := read_inf hy fy
      rw [r1, r2] at ho ⊢
      simp only [numt, inft, Bool.false_or, Ieee.Datum.isNaN, Bool.or_self, Bool.false_eq_true, if_false, ho]
      by_cases hs : sgn y = neg
      · rw [decide_eq_true hs, if_pos rfl]
        refine ⟨iw.1, ?_⟩
        have hk := key_inf hy fy
        rw [iw.2, if_neg ((hex y hy fy hs x hx).2), hk, hs]
      · rw [decide_eq_false hs, if_neg (by decide)]
        exact tail _ (fun h => by simp [Ieee.Datum.isZero] at h) _
  | false =>
    have r1 := read_inf hx fx
    cases fy : fin y with
    | true =>
      obtain ⟨m2, i2, r2, z2⟩ := read_fin fy
      rw [r1, r2] at ho ⊢
      simp only [numt, inft, Bool.or_false, Ieee.Datum.isNaN, Bool.or_self, Bool.false_eq_true, if_false, ho]
      by_cases hs : sgn x = neg
      · rw [decide_eq_true hs, if_pos rfl]
        refine ⟨iw.1, ?_⟩
        have hk := key_inf hx fx
        rw [iw.2]
        rcases (hex x hx fx hs y hy).1 with h | h
        · rw [if_pos h, hk, hs]
        · rw [← h, ite_self, hk, hs]
      · rw [decide_eq_false hs, if_neg (by decide)]
        exact tail _ (fun h => by simp [Ieee.Datum.isZero] at h) _
    | false =>
      have r2 := read_inf hy fy
      rw [r1, r2] at ho ⊢
      simp only [inft, Ieee.Datum.isNaN, Bool.or_self, Bool.false_eq_true, if_false, ho]
      by_cases hs : sgn x = neg
      · rw [decide_eq_true hs, Bool.true_or, if_pos rfl]
        refine ⟨iw.1, ?_⟩
        have hk := key_inf hx fx
        rw [iw.2]
        rcases (hex x hx fx hs y hy).1 with h | h
        · rw [if_pos h, hk, hs]
        · rw [← h, ite_self, hk, hs]
      · by_cases hs2 : sgn y = neg
        · rw [decide_eq_true hs2, Bool.or_true, if_pos rfl]
          refine ⟨iw.1, ?_⟩
          have hk := key_inf hy fy
          rw [iw.2, if_neg ((hex y hy fy hs2 x hx).2), hk, hs2]
        · rw [decide_eq_false hs, decide_eq_false hs2, Bool.or_self, if_neg (by decide)]
          exact tail _ (fun h => by simp [Ieee.Datum.isZero] at h) _
theorem fpick_min {x y : Nat} (hx : isnan x = false) (hy : isnan y = false) : isnan (fpick true .lt x y) = false ∧ ikey (fpick true .lt x y) = min (ikey x) (ikey y) := by
  have h := fpick_gen (neg := true) (win := .lt) hx hy (by decide) (fun z hz fz sz u hu => by
    have h1 := key_inf hz fz
    have h2 := key_bound hu
    rw [sz] at h1
    simp only [if_true] at h1
    rw [h1]
    by_cases e : -9218868437227405312 < ikey u
    · rw [c_lt e, c_gt e]
      exact ⟨.inl rfl, by decide⟩
    · refine ⟨.inr (by omega), ?_⟩
      rw [c_eq (by omega)]
      decide)
  refine ⟨h.1, ?_⟩
  rw [h.2]
  by_cases e : ikey x < ikey y
  · rw [if_pos (c_lt e)]; omega
  · by_cases e2 : ikey x = ikey y
    · rw [if_neg (by rw [c_eq e2]; decide)]; omega
    · rw [if_neg (by rw [c_gt (by omega)]; decide)]; omega
theorem fpick_max {x y : Nat} (hx : isnan x = false) (hy : isnan y = false) : isnan (fpick false .gt x y) = false ∧ ikey (fpick false .gt x y) = max (ikey x) (ikey y) := by
  have h := fpick_gen (neg := false) (win := .gt) hx hy (by decide) (fun z hz fz sz u hu => by
    have h1 := key_inf hz fz
    have h2 := key_bound hu
    rw [sz] at h1
    simp only [Bool.false_eq_true, if_false] at h1
    rw [h1]
    by_cases e : ikey u < 9218868437227405312
    · rw [c_gt e, c_lt e]
      exact ⟨.inl rfl, by decide⟩
    · refine ⟨.inr (by omega), ?_⟩
      rw [c_eq (by omega)]
      decide)
  refine ⟨h.1, ?_⟩
  rw [h.2]
  by_cases e : ikey x < ikey y
  · rw [if_neg (by rw [c_lt e]; decide)]; omega
  · by_cases e2 : ikey x = ikey y
    · rw [if_neg (by rw [c_eq e2]; decide)]; omega
    · rw [if_pos (c_gt (by omega))]; omega
theorem fmm_key {x y : Nat} (mx : Bool) (hx : isnan x = false) (hy : isnan y = false) : ∃ z, fmm mx x y = some z ∧ isnan z = false ∧ ikey z = bif mx then max (ikey x) (ikey y) else min (ikey x) (ikey y) := by
  unfold fmm
  rw [order_iff hx hy]
  by_cases e : ikey x < ikey y
  · rw [c_lt e]
    cases mx
    · exact ⟨_, rfl, hx, by simp only [cond_false]; omega⟩
    · exact ⟨_, rfl, hy, by simp only [cond_true]; omega⟩
  · by_cases e2 : ikey x = ikey y
    · rw [c_eq e2]
      refine ⟨_, rfl, ?_, ?_⟩
      · cases mx <;> simp only [cond_true, cond_false] <;> split <;> assumption
      · cases mx <;> simp only [cond_true, cond_false] <;> split <;> omega
    · rw [c_gt (by omega)]
      cases mx
      · exact ⟨_, rfl, hy, by simp only [cond_false]; omega⟩
      · exact ⟨_, rfl, hx, by simp only [cond_true]; omega⟩
theorem fne_key {x y : Nat} (hx : isnan x = false) (hy : isnan y = false) (h : ikey x = ikey y) : fne x y = false := by
  rw [fne_eq, hx, hy, h]; simp
theorem feq_self {x : Nat} : feq x x = !isnan x := by
  rw [feq_eq]; simp
end Go.Av
