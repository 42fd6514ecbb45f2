/- The plain law of FnIsEmpty: a geometry is empty just if it has no numbers, a collection if all its parts are. -/
import Derived.Test.YtjabjnkiddldeaaPvMkIE
set_option linter.unusedVariables false
set_option linter.unusedSectionVars false
set_option linter.unusedSimpArgs false
namespace Go.Proofs.Ytjabjnkiddldeaa.PvIsEmpty
open Go.Av Go
open Go.Proofs.Ytjabjnkiddldeaa.IE
open Go.Proofs.Ytjabjnkiddldeaa.PvGeoIE
open Go.Proofs.Ytjabjnkiddldeaa.PvObjIE
open Go.Proofs.Ytjabjnkiddldeaa.PvMkIE
mutual
def emp : Geo → Bool
  | .mk _ _ _ flat _ _ kids => emps kids && decide (flat.length = 0)
def emps : List Geo → Bool
  | [] => true
  | g :: r => emp g && emps r
end
theorem emp_eq (g : Geo) : emp g = (emps g.kids && decide (g.flat.length = 0)) := by cases g; rfl
theorem emps_all : ∀ l : List Geo, emps l = l.all emp
  | [] => rfl
  | g :: r => by simp only [emps, List.all_cons, emps_all r]
section
variable {N : Nat} (hN : 0 < N) (hNl : 9223372036854775808 ≤ N)
include hN hNl
theorem spec_emp : ∀ (d : Nat) (g : Geo), dep g ≤ d → wfG g → spec_Empty N d g = some (emp g)
  | 0, g, h, _ => by have := dep_pos g; omega
  | d + 1, g, h, hw => by
    obtain ⟨sz, hk⟩ := sz_of hw
    have s2 := sz.kids
    simp only [spec_Empty, spec_Empty_g]
    rw [emp_eq, emps_all]
    rcases checkLoop0 (xs := g.kids) (L := fun n i => spec_Empty_l0 N (spec_Empty N d) n g i) (e := fun o => o = some false ∧ g.kids.all emp = false) (fin := some ((g.flat.length : Int) == 0)) (fun k => emp k = true)
      (fun n => by
        simp only [spec_Empty_l0, spec_Empty_g0, Bool.cond_decide]
        rw [if_neg (Int.lt_irrefl _)])
      (fun n i hi => by
        simp only [spec_Empty_l0, spec_Empty_g0, Bool.cond_decide, eta]
        rw [if_pos (by omega), nth_get hi, succ_in hi (by omega)]
        have hm := List.getElem_mem hi
        simp only [Option.bind_some, spec_emp d g.kids[i] (by have := dep_kid hm; omega) (hk _ hm)]
        cases he : emp g.kids[i] with
        | false => exact .inl ⟨rfl, List.all_eq_false.2 ⟨_, hm, by simp [he]⟩⟩
        | true => exact .inr ⟨rfl, rfl⟩) N (by omega) with ⟨h2, h3⟩ | ⟨h2, h3⟩
    · rw [h2, h3]; rfl
    · rw [h2, List.all_eq_true.2 h3, Bool.true_and]
      congr 1
      rw [Bool.eq_iff_iff]; simp
/-- The method of what lies in memory. -/
theorem empC : ∀ (d : Nat) (g : Geo), dep g ≤ d → wfG g → GC g → g.kind = 7 → gogeom_GeometryCollection_Empty N d (g.layout, objs g.kids, g.srid, ()) = some (emp g, ())
  | 0, g, h, _, _, _ => by have := dep_pos g; omega
  | d + 1, g, h, hw, hg, h7 => by
    obtain ⟨sz, hk⟩ := sz_of hw
    have s2 := sz.kids
    have q := GC_iff.1 hg
    simp only [gogeom_GeometryCollection_Empty, gogeom_GeometryCollection_Empty_g]
    rw [emp_eq, emps_all, (q.coll h7).2.1, List.length_nil, show decide ((0 : Nat) = 0) = true from rfl, Bool.and_true]
    rcases checkLoop0 (xs := g.kids) (L := fun n i => gogeom_GeometryCollection_Empty_l0 N (gogeom_GeometryCollection_Empty N d) n (g.layout, objs g.kids, g.srid, ()) i) (e := fun o => o = some (false, ()) ∧ g.kids.all emp = false) (fin := some (true, ())) (fun k => emp k = true)
      (fun n => by
        simp only [gogeom_GeometryCollection_Empty_l0, gogeom_GeometryCollection_Empty_g0, Bool.cond_decide, objs_len]
        rw [if_neg (Int.lt_irrefl _)])
      (fun n i hi => by
        have hm := List.getElem_mem hi
        have step : gogeom_GeometryCollection_Empty_l0 N (gogeom_GeometryCollection_Empty N d) (n + 1) (g.layout, objs g.kids, g.srid, ()) (i : Int) =
            gogeom_GeometryCollection_Empty_j1 N (gogeom_GeometryCollection_Empty N d) (gogeom_GeometryCollection_Empty_l0 N (gogeom_GeometryCollection_Empty N d) n (g.layout, objs g.kids, g.srid, ())) (g.layout, objs g.kids, g.srid, ()) (i : Int) (!emp g.kids[i]) := by
          simp only [gogeom_GeometryCollection_Empty_l0]
          unfold gogeom_GeometryCollection_Empty_g0
          simp only [Bool.cond_decide, objs_len]
          rw [if_pos (by omega), nth_objs hi]
          have hgk := (q.kid h7 _ hm).1
          have ih := fun e : (g.kids[i]).kind = 7 => empC d g.kids[i] (by have := dep_kid hm; omega) (hk _ hm) hgk e
          generalize g.kids[i] = k at hgk ih ⊢
          have he : k.kind ≠ 7 → emp k = decide (k.flat.length = 0) := fun hn => by
            rw [emp_eq, ((GC_iff.1 hgk).plain hn).1.kids]; simp [emps]
          have hb : ((k.flat.length : Int) == 0) = decide (k.flat.length = 0) := by rw [Bool.eq_iff_iff]; simp
          rcases GC_kinds hgk with e | e | e | e | e | e | e | e
          · rw [obj1 e, he (by omega), ← hb]; rfl
          · rw [obj2 e, he (by omega), ← hb]; rfl
          · rw [obj8 e, he (by omega), ← hb]; rfl
          · rw [obj3 e, he (by omega), ← hb]; rfl
          · rw [obj4 e, he (by omega), ← hb]; rfl
          · rw [obj5 e, he (by omega), ← hb]; rfl
          · rw [obj6 e, he (by omega), ← hb]; rfl
          · rw [obj7 e]
            show (gogeom_GeometryCollection_Empty N d (k.layout, objs k.kids, k.srid, ())).bind (fun v71 => gogeom_GeometryCollection_Empty_j1 N _ _ (g.layout, objs g.kids, g.srid, ()) (i : Int) (!v71.1)) = _
            rw [ih e]; rfl
        rw [step]
        unfold gogeom_GeometryCollection_Empty_j1 gogeom_GeometryCollection_Empty_g1
        rw [gate_pos hN, succ_in hi (by omega)]
        cases he : emp g.kids[i] with
        | false => exact .inl ⟨rfl, List.all_eq_false.2 ⟨_, hm, by simp [he]⟩⟩
        | true => exact .inr ⟨rfl, rfl⟩) N (by omega) with ⟨h2, h3⟩ | ⟨h2, h3⟩
    · rw [h2, h3]
    · rw [h2, List.all_eq_true.2 h3]
theorem is_empty (g : Geo) (hd : dep g ≤ N) (hw : wfG g) (hg : GC g) : impl_IsEmpty N g = some (emp g, true) := by
  unfold impl_IsEmpty impl_IsEmpty_g
  rw [eta, geometry hN hNl N g hd hd hw hg]
  have he : g.kind ≠ 7 → emp g = decide (g.flat.length = 0) := fun hn => by
    rw [emp_eq, ((GC_iff.1 hg).plain hn).1.kids]; simp [emps]
  have hb : ((g.flat.length : Int) == 0) = decide (g.flat.length = 0) := by rw [Bool.eq_iff_iff]; simp
  rcases GC_kinds hg with e | e | e | e | e | e | e | e
  · rw [obj1 e, he (by omega), ← hb]; rfl
  · rw [obj2 e, he (by omega), ← hb]; rfl
  · rw [obj8 e, he (by omega), ← hb]; rfl
  · rw [obj3 e, he (by omega), ← hb]; rfl
  · rw [obj4 e, he (by omega), ← hb]; rfl
  · rw [obj5 e, he (by omega), ← hb]; rfl
  · rw [obj6 e, he (by omega), ← hb]; rfl
  · rw [obj7 e]
    show (gogeom_GeometryCollection_Empty N N (g.layout, objs g.kids, g.srid, ())).bind (fun v => some (v.1, true)) = _
    rw [empC hN hNl N g hd hw hg e]; rfl
theorem law (g : Geo) (hd : dep g ≤ N) (hw : wfG g) : laws_FnIsEmpty N g = some true := by
  unfold laws_FnIsEmpty laws_FnIsEmpty_g
  rw [eta]
  obtain ⟨b, hb, _⟩ := fits2 hN hNl g hw
  rw [hb]
  simp only [Option.bind_some]
  cases b with
  | false => rfl
  | true =>
    simp only [Bool.not_true, cond_false]
    obtain ⟨b2, hb2, _⟩ := gGood_one hN hNl g hd hw
    rw [hb2]
    simp only [Option.bind_some]
    cases b2 with
    | false => rfl
    | true =>
      have hg := gGood_all hN hNl g hd hw hb2
      simp only [Bool.not_true, cond_false]
      rw [is_empty hN hNl g hd hw hg, spec_emp hN hNl N g hd hw]
      simp only [Option.bind_some, cond_true, BEq.rfl]
end
end Go.Proofs.Ytjabjnkiddldeaa.PvIsEmpty
