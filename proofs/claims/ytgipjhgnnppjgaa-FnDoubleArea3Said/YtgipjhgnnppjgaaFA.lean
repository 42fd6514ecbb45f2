import Derived.Test.YtgipjhgnnppjgaaProg
import Derived.Test.YtgipjhgnnppjgaaAv16
import Derived.Test.YtgipjhgnnppjgaaAv19
import Derived.Test.YtgipjhgnnppjgaaAv20
import Derived.Test.YtgipjhgnnppjgaaAv21
import Derived.Test.YtgipjhgnnppjgaaAv25
import Derived.KernelRfl
set_option linter.unusedVariables false
namespace Go.Proofs.Ytgipjhgnnppjgaa.FA
open Go Go.Av
/-- pub-orthodrome/spec.Stride -/
noncomputable def spec_Stride_E (N : Nat) : Env := ⟨Try.prog, N, [], [(0, ⟨[], [], [0], [], none⟩), (1, ⟨[], [], [0], [], none⟩), (2, ⟨[], [], [0, 3], [], none⟩), (4, ⟨[], [], [0, 6], [], none⟩), (6, ⟨[], [], [0, 9], [], none⟩), (7, ⟨[], [], [0], [], none⟩)], kdL [], []⟩
def spec_Stride_g (N : Nat) (v1 : Int) : Option (Int) :=
  (bif (decide ((v1 : Int) < 1)) then (some 0) else (bif (v1 == 1) then (some 2) else (bif (v1 == 2) then (some 3) else (bif (v1 == 3) then (some 3) else (some v1)))))
def spec_Stride (N : Nat) (v1 : Int) : Option (Int) :=
  spec_Stride_g N v1
set_option maxRecDepth 100000
theorem spec_Stride_t (N : Nat) (v1 : Int) : evF (spec_Stride_E N) [] Try.f18 [.k (.int .i64)] [(.int .i64)] (v1, ()) = spec_Stride N v1 := by
  exact (show evF (spec_Stride_E N) [] Try.f18 [.k (.int .i64)] [(.int .i64)] (v1, ()) = spec_Stride_g N v1 from by kernel_rfl).trans (by rfl)
noncomputable def spec_Stride_con (N : Nat) : Con := ⟨18, [.k (.int .i64)], [(.int .i64)], fun x => spec_Stride N x.1⟩
theorem spec_Stride_s (N : Nat) : (spec_Stride_con N).Sound Try.prog :=
  Con.sound_of (c := spec_Stride_con N) (E := (spec_Stride_E N)) (idle := []) Try.func18 (by kernel_rfl) (by kernel_rfl) ⟨allNil, allNil⟩ allNil (fun x y h => (spec_Stride_t N x.1).trans h)
/-- pub-orthodrome/laws.gNumber -/
noncomputable def laws_gNumber_E (N : Nat) : Env := ⟨Try.prog, N, [], [(0, ⟨[], [], [0], [], none⟩), (1, ⟨[], [], [0], [], none⟩)], kdL [], []⟩
def laws_gNumber_g (N : Nat) (v1 : Nat) : Option (Bool) :=
  (some (feq v1 v1))
def laws_gNumber (N : Nat) (v1 : Nat) : Option (Bool) :=
  laws_gNumber_g N v1
set_option maxRecDepth 100000
theorem laws_gNumber_t (N : Nat) (v1 : Nat) : evF (laws_gNumber_E N) [] Try.f64 [.k .float] [.bool] (v1, ()) = laws_gNumber N v1 := by
  exact (show evF (laws_gNumber_E N) [] Try.f64 [.k .float] [.bool] (v1, ()) = laws_gNumber_g N v1 from by kernel_rfl).trans (by rfl)
noncomputable def laws_gNumber_con (N : Nat) : Con := ⟨64, [.k .float], [.bool], fun x => laws_gNumber N x.1⟩
theorem laws_gNumber_s (N : Nat) : (laws_gNumber_con N).Sound Try.prog :=
  Con.sound_of (c := laws_gNumber_con N) (E := (laws_gNumber_E N)) (idle := []) Try.func64 (by kernel_rfl) (by kernel_rfl) ⟨allNil, allNil⟩ allNil (fun x y h => (laws_gNumber_t N x.1).trans h)
/-- pub-orthodrome/laws.gEach -/
def laws_gEach_g1 (N : Nat) (self : Geo → Option (Bool)) (v1 : Geo) (r1 : Int → Option (Bool)) (v9 : Int) : Option (Bool) :=
  (bif (decide ((v9 : Int) < (v1.kids.length : Int))) then ((nth v1.kids v9).bind fun v10 => ((self (Geo.mk v10.kind v10.layout v10.srid v10.flat v10.ends v10.endss v10.kids)).bind fun v11 => (bif (!v11) then (some false) else ((r1 (IntKind.i64.wrap (v9 + 1))))))) else (some true))
def laws_gEach_l1 (N : Nat) (self : Geo → Option (Bool)) : Nat → Geo → Int → Option (Bool)
  | 0, _, _ => none
  | n + 1, v1, v9 => laws_gEach_g1 N self v1 (laws_gEach_l1 N self n v1) v9
def laws_gEach_g0 (N : Nat) (self : Geo → Option (Bool)) (v1 : Geo) (c1 : Geo → Int → Option (Bool)) (r0 : Int → Option (Bool)) (v4 : Int) : Option (Bool) :=
  (bif (decide ((v4 : Int) < (v1.flat.length : Int))) then ((nth v1.flat v4).bind fun v5 => ((laws_gNumber N v5).bind fun v6 => (bif (!v6) then (some false) else ((r0 (IntKind.i64.wrap (v4 + 1))))))) else ((c1 v1 0)))
def laws_gEach_l0 (N : Nat) (self : Geo → Option (Bool)) : Nat → Geo → Int → Option (Bool)
  | 0, _, _ => none
  | n + 1, v1, v4 => laws_gEach_g0 N self v1 (laws_gEach_l1 N self N) (laws_gEach_l0 N self n v1) v4
def laws_gEach_g (N : Nat) (self : Geo → Option (Bool)) (v1 : Geo) (c0 : Geo → Int → Option (Bool)) : Option (Bool) :=
  ((c0 v1 0))
def laws_gEach (N : Nat) : Nat → Geo → Option (Bool)
  | 0, _ => none
  | d + 1, v1 => laws_gEach_g N (laws_gEach N d) v1 (laws_gEach_l0 N (laws_gEach N d) N)
noncomputable def laws_gEach_con' (N : Nat) (d : Nat) : Con := ⟨22, [.k .geo, .fn 64], [.bool], fun x => laws_gEach N d x.1⟩
noncomputable def laws_gEach_E (N : Nat) (d : Nat) : Env := ⟨Try.prog, N, [laws_gEach_con' N d, laws_gNumber_con N], [(0, ⟨[], [], [0, 1], [], none⟩), (1, ⟨[], [], [1, 2], [2], none⟩), (2, ⟨[], [], [1, 2, 10, 11, 12], [2], none⟩), (3, ⟨[], [], [1, 2, 10, 11, 12], [2], none⟩), (4, ⟨[], [], [1, 2, 6, 10, 11, 12], [2], none⟩), (5, ⟨[], [], [1, 2, 10, 11, 12, 19], [2], none⟩), (6, ⟨[], [], [1, 2, 10, 11, 12], [2], none⟩), (7, ⟨[], [], [1, 2], [2], none⟩), (8, ⟨[], [], [1, 22, 23, 24], [], none⟩), (9, ⟨[], [], [1, 22, 23, 24], [], none⟩), (10, ⟨[], [], [1, 8, 22, 23, 24], [8], none⟩), (11, ⟨[], [], [1, 22, 23, 24, 31], [], none⟩), (12, ⟨[], [], [1, 22, 23, 24], [], none⟩), (13, ⟨[], [], [], [], none⟩)], kdL [], []⟩
set_option maxRecDepth 100000
noncomputable def laws_gEach_e1 (N : Nat) (d : Nat) (n : Nat) (v1 : Geo) (v9 : Int) : Option (HR [.bool]) :=
  loopN (advOf (laws_gEach_E N d) (codeAt (bodyOf Try.f22) [1, 1, 0, 1, 0, 0])) (evC (laws_gEach_E N d) (codeAt (bodyOf Try.f22) [1, 1, 0, 1, 0, 0])) n ⟨[(1, .func 64 []), (22, .pv (.list .geo) v1.kids), (23, .pv (.int .i64) (v1.kids.length : Int)), (24, .pv (.int .i64) v9)], [], []⟩ (kBlock 2 (kSeq (advOf (laws_gEach_E N d) (codeAt (bodyOf Try.f22) [1, 1, 1])) (evC (laws_gEach_E N d) (codeAt (bodyOf Try.f22) [1, 1, 1])) (kEnd (laws_gEach_E N d) [] Try.f22.results.toList [.bool])))
noncomputable def laws_gEach_e0 (N : Nat) (d : Nat) (n : Nat) (v1 : Geo) (v4 : Int) : Option (HR [.bool]) :=
  loopN (advOf (laws_gEach_E N d) (codeAt (bodyOf Try.f22) [1, 0, 1, 0, 0])) (evC (laws_gEach_E N d) (codeAt (bodyOf Try.f22) [1, 0, 1, 0, 0])) n ⟨[(1, .func 64 []), (2, .ref 2 0), (10, .pv (.list .float) v1.flat), (11, .pv (.int .i64) (v1.flat.length : Int)), (12, .pv (.int .i64) v4)], [(2, .box [.pv (.int .i64) v1.kind, .pv (.int .i64) v1.layout, .pv (.int .i64) v1.srid, .pv (.list .float) v1.flat, .pv (.list (.int .i64)) v1.ends, .pv (.list (.list (.int .i64))) v1.endss, .pv (.list .geo) v1.kids])], []⟩ (kBlock 0 (kSeq (advOf (laws_gEach_E N d) (codeAt (bodyOf Try.f22) [1, 1])) (evC (laws_gEach_E N d) (codeAt (bodyOf Try.f22) [1, 1])) (kEnd (laws_gEach_E N d) [] Try.f22.results.toList [.bool])))
theorem laws_gEach_t1 (N : Nat) (d : Nat) : ∀ (n : Nat) (v1 : Geo) (v9 : Int), laws_gEach_e1 N d n v1 v9 = laws_gEach_l1 N (laws_gEach N d) n v1 v9
  | 0, _, _ => rfl
  | n + 1, v1, v9 => by
    have h : laws_gEach_e1 N d n v1 = laws_gEach_l1 N (laws_gEach N d) n v1 := by funext v9; exact laws_gEach_t1 N d n v1 v9
    exact (show laws_gEach_e1 N d (n + 1) v1 v9 = laws_gEach_g1 N (laws_gEach N d) v1 (laws_gEach_e1 N d n v1) v9 from by kernel_rfl).trans (by rw [h]; rfl)
theorem laws_gEach_t0 (N : Nat) (d : Nat) : ∀ (n : Nat) (v1 : Geo) (v4 : Int), laws_gEach_e0 N d n v1 v4 = laws_gEach_l0 N (laws_gEach N d) n v1 v4
  | 0, _, _ => rfl
  | n + 1, v1, v4 => by
    have h1 : (laws_gEach_e1 N d N) = (laws_gEach_l1 N (laws_gEach N d) N) := by funext v1 v9; exact laws_gEach_t1 N d N v1 v9
    have h : laws_gEach_e0 N d n v1 = laws_gEach_l0 N (laws_gEach N d) n v1 := by funext v4; exact laws_gEach_t0 N d n v1 v4
    exact (show laws_gEach_e0 N d (n + 1) v1 v4 = laws_gEach_g0 N (laws_gEach N d) v1 (laws_gEach_e1 N d N) (laws_gEach_e0 N d n v1) v4 from by kernel_rfl).trans (by rw [h1, h]; rfl)
theorem laws_gEach_t (N : Nat) (d : Nat) (v1 : Geo) : evF (laws_gEach_E N d) [] Try.f22 [.k .geo, .fn 64] [.bool] (v1, ()) = laws_gEach N (d + 1) v1 := by
  have h0 : (laws_gEach_e0 N d N) = (laws_gEach_l0 N (laws_gEach N d) N) := by funext v1 v4; exact laws_gEach_t0 N d N v1 v4
  exact (show evF (laws_gEach_E N d) [] Try.f22 [.k .geo, .fn 64] [.bool] (v1, ()) = laws_gEach_g N (laws_gEach N d) v1 (laws_gEach_e0 N d N) from by kernel_rfl).trans (by rw [h0]; rfl)
theorem laws_gEach_s' (N : Nat) : ∀ d, (laws_gEach_con' N d).Sound Try.prog
  | 0 => fun _ _ _ _ _ _ _ h => by cases h
  | d + 1 => Con.sound_of (c := laws_gEach_con' N (d + 1)) (E := (laws_gEach_E N d)) (idle := []) Try.func22 (by kernel_rfl) (by kernel_rfl) ⟨(allCons (laws_gEach_s' N d) (allCons (laws_gNumber_s N) allNil)), allNil⟩ allNil (fun x y h => (laws_gEach_t N d x.1).trans h)
noncomputable def laws_gEach_con (N : Nat) : Con := laws_gEach_con' N N
theorem laws_gEach_s (N : Nat) : (laws_gEach_con N).Sound Try.prog := laws_gEach_s' N N
/-- pub-orthodrome/laws.sRow -/
noncomputable def laws_sRow_E (N : Nat) : Env := ⟨Try.prog, N, [spec_Stride_con N, laws_gEach_con N], [(0, ⟨[], [], [0, 1], [], none⟩), (1, ⟨[], [], [0, 1], [], none⟩), (2, ⟨[], [], [0, 1, 5], [], none⟩)], kdL [], []⟩
def laws_sRow_g (N : Nat) (v1 : Int) (v2 : (List Nat)) : Option (Bool) :=
  ((spec_Stride N v1).bind fun v3 => (bif (decide ((v1 : Int) ≥ 1)) then (bif (decide ((v1 : Int) ≤ 9)) then (bif (decide (((v2.length : Int) : Int) ≤ 1000)) then (if v3 = 0 then none else bif ((Int.tmod (v2.length : Int) v3) == 0) then ((laws_gEach N N (Geo.mk 0 0 0 v2 ([] : List Int) ([] : List (List Int)) ([] : List Geo))).bind fun v4 => (some v4)) else (some false)) else (some false)) else (some false)) else (some false)))
def laws_sRow (N : Nat) (v1 : Int) (v2 : (List Nat)) : Option (Bool) :=
  laws_sRow_g N v1 v2
set_option maxRecDepth 100000
theorem laws_sRow_t (N : Nat) (v1 : Int) (v2 : (List Nat)) : evF (laws_sRow_E N) [] Try.f16 [.k (.int .i64), .k (.list .float)] [.bool] (v1, v2, ()) = laws_sRow N v1 v2 := by
  exact (show evF (laws_sRow_E N) [] Try.f16 [.k (.int .i64), .k (.list .float)] [.bool] (v1, v2, ()) = laws_sRow_g N v1 v2 from by kernel_rfl).trans (by rfl)
noncomputable def laws_sRow_con (N : Nat) : Con := ⟨16, [.k (.int .i64), .k (.list .float)], [.bool], fun x => laws_sRow N x.1 x.2.1⟩
theorem laws_sRow_s (N : Nat) : (laws_sRow_con N).Sound Try.prog :=
  Con.sound_of (c := laws_sRow_con N) (E := (laws_sRow_E N)) (idle := []) Try.func16 (by kernel_rfl) (by kernel_rfl) ⟨(allCons (spec_Stride_s N) (allCons (laws_gEach_s N) allNil)), allNil⟩ allNil (fun x y h => (laws_sRow_t N x.1 x.2.1).trans h)
/-- (pub-orthodrome/pub/gogeom.Layout).Stride -/
noncomputable def gogeom_Layout_Stride_E (N : Nat) : Env := ⟨Try.prog, N, [], [(0, ⟨[], [], [0], [], none⟩), (1, ⟨[], [], [0], [], none⟩), (3, ⟨[], [], [0, 3], [], none⟩), (4, ⟨[], [], [0, 3, 5], [], none⟩), (6, ⟨[], [], [0, 3, 7], [], none⟩), (8, ⟨[], [], [0, 3, 9], [], none⟩), (10, ⟨[], [], [0, 3, 11], [], none⟩), (12, ⟨[], [], [0, 13], [], none⟩)], kdL [], []⟩
def gogeom_Layout_Stride_g (N : Nat) (v1 : Int) : Option (Int) :=
  (bif (v1 == 0) then (some 0) else (bif (v1 == 1) then (some 2) else (bif (v1 == 2) then (some 3) else (bif (v1 == 3) then (some 3) else (bif (v1 == 4) then (some 4) else (some v1))))))
def gogeom_Layout_Stride (N : Nat) (v1 : Int) : Option (Int) :=
  gogeom_Layout_Stride_g N v1
set_option maxRecDepth 100000
theorem gogeom_Layout_Stride_t (N : Nat) (v1 : Int) : evF (gogeom_Layout_Stride_E N) [] Try.f137 [.k (.int .i64)] [(.int .i64)] (v1, ()) = gogeom_Layout_Stride N v1 := by
  exact (show evF (gogeom_Layout_Stride_E N) [] Try.f137 [.k (.int .i64)] [(.int .i64)] (v1, ()) = gogeom_Layout_Stride_g N v1 from by kernel_rfl).trans (by rfl)
noncomputable def gogeom_Layout_Stride_con (N : Nat) : Con := ⟨137, [.k (.int .i64)], [(.int .i64)], fun x => gogeom_Layout_Stride N x.1⟩
theorem gogeom_Layout_Stride_s (N : Nat) : (gogeom_Layout_Stride_con N).Sound Try.prog :=
  Con.sound_of (c := gogeom_Layout_Stride_con N) (E := (gogeom_Layout_Stride_E N)) (idle := []) Try.func137 (by kernel_rfl) (by kernel_rfl) ⟨allNil, allNil⟩ allNil (fun x y h => (gogeom_Layout_Stride_t N x.1).trans h)
/-- pub-orthodrome/pub/gogeom/sorting.NewFlatCoordSorting -/
noncomputable def sorting_NewFlatCoordSorting_E (N : Nat) : Env := ⟨Try.prog, N, [gogeom_Layout_Stride_con N], [(0, ⟨[], [], [0, 1, 2], [], none⟩), (1, ⟨[], [], [0, 1, 2, 6], [6], none⟩)], kdL [], []⟩
def sorting_NewFlatCoordSorting_g (N : Nat) (v1 : Int) (v2 : (List Nat)) : Option (((Unit × (List Nat) × Int × Int × Unit) × Unit)) :=
  ((gogeom_Layout_Stride N v1).bind fun v3 => (some (((), v2, v1, v3, ()), ())))
def sorting_NewFlatCoordSorting (N : Nat) (v1 : Int) (v2 : (List Nat)) : Option (((Unit × (List Nat) × Int × Int × Unit) × Unit)) :=
  sorting_NewFlatCoordSorting_g N v1 v2
set_option maxRecDepth 100000
theorem sorting_NewFlatCoordSorting_t (N : Nat) (v1 : Int) (v2 : (List Nat)) : evF2 (sorting_NewFlatCoordSorting_E N) [] Try.f112 [.k (.int .i64), .k (.list .float), .fn 113 []] [⟨[.agg [.fn 113 [], .k (.list .float), .k (.int .i64), .k (.int .i64)]], [none, none, none]⟩] (v1, v2, (), ()) = sorting_NewFlatCoordSorting N v1 v2 := by
  exact (show evF2 (sorting_NewFlatCoordSorting_E N) [] Try.f112 [.k (.int .i64), .k (.list .float), .fn 113 []] [⟨[.agg [.fn 113 [], .k (.list .float), .k (.int .i64), .k (.int .i64)]], [none, none, none]⟩] (v1, v2, (), ()) = sorting_NewFlatCoordSorting_g N v1 v2 from by kernel_rfl).trans (by rfl)
noncomputable def sorting_NewFlatCoordSorting_con (N : Nat) : Con2 := ⟨112, [.k (.int .i64), .k (.list .float), .fn 113 []], [⟨[.agg [.fn 113 [], .k (.list .float), .k (.int .i64), .k (.int .i64)]], [none, none, none]⟩], fun x => sorting_NewFlatCoordSorting N x.1 x.2.1⟩
theorem sorting_NewFlatCoordSorting_s (N : Nat) : (sorting_NewFlatCoordSorting_con N).Sound Try.prog :=
  Con2.sound_of (c := sorting_NewFlatCoordSorting_con N) (E := (sorting_NewFlatCoordSorting_E N)) (idle := []) Try.func112 (by kernel_rfl) (by kernel_rfl) ⟨(allCons (gogeom_Layout_Stride_s N) allNil), allNil⟩ allNil (fun x y h => (sorting_NewFlatCoordSorting_t N x.1 x.2.1).trans h)
/-- pub-orthodrome/pub/gogeom/sorting.NewFlatCoordSorting2D -/
noncomputable def sorting_NewFlatCoordSorting2D_E (N : Nat) : Env := ⟨Try.prog, N, [], [(0, ⟨[], [], [0, 1], [], none⟩), (1, ⟨[], [], [0, 1, 4], [4], none⟩)], kdL [], [sorting_NewFlatCoordSorting_con N]⟩
def sorting_NewFlatCoordSorting2D_g (N : Nat) (v1 : Int) (v2 : (List Nat)) : Option (((Unit × (List Nat) × Int × Int × Unit) × Unit)) :=
  ((sorting_NewFlatCoordSorting N v1 v2).bind fun v3 => (some (((), v3.1.2.1, v3.1.2.2.1, v3.1.2.2.2.1, ()), ())))
def sorting_NewFlatCoordSorting2D (N : Nat) (v1 : Int) (v2 : (List Nat)) : Option (((Unit × (List Nat) × Int × Int × Unit) × Unit)) :=
  sorting_NewFlatCoordSorting2D_g N v1 v2
set_option maxRecDepth 100000
theorem sorting_NewFlatCoordSorting2D_t (N : Nat) (v1 : Int) (v2 : (List Nat)) : evF2 (sorting_NewFlatCoordSorting2D_E N) [] Try.f66 [.k (.int .i64), .k (.list .float)] [⟨[.agg [.fn 113 [], .k (.list .float), .k (.int .i64), .k (.int .i64)]], [none, none]⟩] (v1, v2, ()) = sorting_NewFlatCoordSorting2D N v1 v2 := by
  exact (show evF2 (sorting_NewFlatCoordSorting2D_E N) [] Try.f66 [.k (.int .i64), .k (.list .float)] [⟨[.agg [.fn 113 [], .k (.list .float), .k (.int .i64), .k (.int .i64)]], [none, none]⟩] (v1, v2, ()) = sorting_NewFlatCoordSorting2D_g N v1 v2 from by kernel_rfl).trans (by rfl)
noncomputable def sorting_NewFlatCoordSorting2D_con (N : Nat) : Con2 := ⟨66, [.k (.int .i64), .k (.list .float)], [⟨[.agg [.fn 113 [], .k (.list .float), .k (.int .i64), .k (.int .i64)]], [none, none]⟩], fun x => sorting_NewFlatCoordSorting2D N x.1 x.2.1⟩
theorem sorting_NewFlatCoordSorting2D_s (N : Nat) : (sorting_NewFlatCoordSorting2D_con N).Sound Try.prog :=
  Con2.sound_of (c := sorting_NewFlatCoordSorting2D_con N) (E := (sorting_NewFlatCoordSorting2D_E N)) (idle := []) Try.func66 (by kernel_rfl) (by kernel_rfl) ⟨allNil, (allCons (sorting_NewFlatCoordSorting_s N) allNil)⟩ allNil (fun x y h => (sorting_NewFlatCoordSorting2D_t N x.1 x.2.1).trans h)
/-- (pub-orthodrome/pub/gogeom/sorting.FlatCoord).Len -/
noncomputable def sorting_FlatCoord_Len_E (N : Nat) : Env := ⟨Try.prog, N, [], [(0, ⟨[], [], [0], [], none⟩), (1, ⟨[], [], [1], [1], none⟩)], kdL [], []⟩
def sorting_FlatCoord_Len_g (N : Nat) (v1 : (Unit × (List Nat) × Int × Int × Unit)) : Option ((Int × Unit)) :=
  (if v1.2.2.2.1 = 0 then none else (some ((IntKind.i64.wrap (Int.tdiv (v1.2.1.length : Int) v1.2.2.2.1)), ())))
def sorting_FlatCoord_Len (N : Nat) (v1 : (Unit × (List Nat) × Int × Int × Unit)) : Option ((Int × Unit)) :=
  sorting_FlatCoord_Len_g N v1
set_option maxRecDepth 100000
theorem sorting_FlatCoord_Len_t (N : Nat) (v1 : (Unit × (List Nat) × Int × Int × Unit)) : evF2 (sorting_FlatCoord_Len_E N) [] Try.f67 [.agg [.fn 113 [], .k (.list .float), .k (.int .i64), .k (.int .i64)]] [⟨[.k (.int .i64)], [none]⟩] (v1, ()) = sorting_FlatCoord_Len N v1 := by
  exact (show evF2 (sorting_FlatCoord_Len_E N) [] Try.f67 [.agg [.fn 113 [], .k (.list .float), .k (.int .i64), .k (.int .i64)]] [⟨[.k (.int .i64)], [none]⟩] (v1, ()) = sorting_FlatCoord_Len_g N v1 from by kernel_rfl).trans (by rfl)
noncomputable def sorting_FlatCoord_Len_con (N : Nat) : Con2 := ⟨67, [.agg [.fn 113 [], .k (.list .float), .k (.int .i64), .k (.int .i64)]], [⟨[.k (.int .i64)], [none]⟩], fun x => sorting_FlatCoord_Len N x.1⟩
theorem sorting_FlatCoord_Len_s (N : Nat) : (sorting_FlatCoord_Len_con N).Sound Try.prog :=
  Con2.sound_of (c := sorting_FlatCoord_Len_con N) (E := (sorting_FlatCoord_Len_E N)) (idle := []) Try.func67 (by kernel_rfl) (by kernel_rfl) ⟨allNil, allNil⟩ allNil (fun x y h => (sorting_FlatCoord_Len_t N x.1).trans h)
/-- pub-orthodrome/impl.SortLen -/
noncomputable def impl_SortLen_E (N : Nat) : Env := ⟨Try.prog, N, [], [(0, ⟨[], [], [0, 1], [], none⟩), (1, ⟨[], [], [0, 1, 4, 5], [4, 5], none⟩), (2, ⟨[], [], [0, 1, 4, 5], [4, 5], none⟩)], kdL [], [sorting_NewFlatCoordSorting2D_con N, sorting_FlatCoord_Len_con N]⟩
def impl_SortLen_g (N : Nat) (v1 : Int) (v2 : (List Nat)) : Option (Int × Bool) :=
  ((sorting_NewFlatCoordSorting2D N v1 v2).bind fun v3 => (sorting_FlatCoord_Len N ((), v3.1.2.1, v3.1.2.2.1, v3.1.2.2.2.1, ())).bind fun v4 => (some (v4.1, true)))
def impl_SortLen (N : Nat) (v1 : Int) (v2 : (List Nat)) : Option (Int × Bool) :=
  impl_SortLen_g N v1 v2
set_option maxRecDepth 100000
theorem impl_SortLen_t (N : Nat) (v1 : Int) (v2 : (List Nat)) : evF (impl_SortLen_E N) [65] Try.f17 [.k (.int .i64), .k (.list .float)] [(.int .i64), .bool] (v1, v2, ()) = impl_SortLen N v1 v2 := by
  exact (show evF (impl_SortLen_E N) [65] Try.f17 [.k (.int .i64), .k (.list .float)] [(.int .i64), .bool] (v1, v2, ()) = impl_SortLen_g N v1 v2 from by kernel_rfl).trans (by rfl)
noncomputable def impl_SortLen_con (N : Nat) : Con := ⟨17, [.k (.int .i64), .k (.list .float)], [(.int .i64), .bool], fun x => impl_SortLen N x.1 x.2.1⟩
theorem impl_SortLen_s (N : Nat) : (impl_SortLen_con N).Sound Try.prog :=
  Con.sound_of (c := impl_SortLen_con N) (E := (impl_SortLen_E N)) (idle := [65]) Try.func17 (by kernel_rfl) (by kernel_rfl) ⟨allNil, (allCons (sorting_NewFlatCoordSorting2D_s N) (allCons (sorting_FlatCoord_Len_s N) allNil))⟩ (allCons (idle_of Try.func65 (by kernel_rfl)) allNil) (fun x y h => (impl_SortLen_t N x.1 x.2.1).trans h)
/-- pub-orthodrome/laws.FnSortLen -/
noncomputable def laws_FnSortLen_E (N : Nat) : Env := ⟨Try.prog, N, [laws_sRow_con N, impl_SortLen_con N, spec_Stride_con N], [(0, ⟨[], [], [0, 1], [], none⟩), (1, ⟨[], [], [0, 1], [], none⟩), (2, ⟨[], [], [0, 1, 9], [], none⟩), (3, ⟨[], [], [0, 1], [], none⟩), (4, ⟨[], [], [0, 1, 13], [], none⟩), (5, ⟨[], [], [0, 1], [], none⟩), (6, ⟨[], [], [0, 1, 5, 6], [], none⟩)], kdL [], []⟩
def laws_FnSortLen_g (N : Nat) (v1 : Int) (v2 : (List Nat)) : Option (Bool) :=
  (bif (decide (((v2.length : Int) : Int) > 2147483647)) then (some true) else ((laws_sRow N v1 v2).bind fun v3 => (bif (!v3) then (some true) else ((impl_SortLen N v1 v2).bind fun v4 => (bif v4.2 then ((spec_Stride N v1).bind fun v5 => if v5 = 0 then none else (some (v4.1 == (IntKind.i64.wrap (Int.tdiv (v2.length : Int) v5))))) else (some false))))))
def laws_FnSortLen (N : Nat) (v1 : Int) (v2 : (List Nat)) : Option (Bool) :=
  laws_FnSortLen_g N v1 v2
set_option maxRecDepth 100000
theorem laws_FnSortLen_t (N : Nat) (v1 : Int) (v2 : (List Nat)) : evF (laws_FnSortLen_E N) [] Try.f4 [.k (.int .i64), .k (.list .float)] [.bool] (v1, v2, ()) = laws_FnSortLen N v1 v2 := by
  exact (show evF (laws_FnSortLen_E N) [] Try.f4 [.k (.int .i64), .k (.list .float)] [.bool] (v1, v2, ()) = laws_FnSortLen_g N v1 v2 from by kernel_rfl).trans (by rfl)
noncomputable def laws_FnSortLen_con (N : Nat) : Con := ⟨4, [.k (.int .i64), .k (.list .float)], [.bool], fun x => laws_FnSortLen N x.1 x.2.1⟩
theorem laws_FnSortLen_s (N : Nat) : (laws_FnSortLen_con N).Sound Try.prog :=
  Con.sound_of (c := laws_FnSortLen_con N) (E := (laws_FnSortLen_E N)) (idle := []) Try.func4 (by kernel_rfl) (by kernel_rfl) ⟨(allCons (laws_sRow_s N) (allCons (impl_SortLen_s N) (allCons (spec_Stride_s N) allNil))), allNil⟩ allNil (fun x y h => (laws_FnSortLen_t N x.1 x.2.1).trans h)
/-- pub-orthodrome/laws.zzFits3 -/
noncomputable def laws_zzFits3_E (N : Nat) : Env := ⟨Try.prog, N, [], [(0, ⟨[], [], [0], [], none⟩), (1, ⟨[], [], [0], [], none⟩), (2, ⟨[], [], [0, 7], [], none⟩), (3, ⟨[], [], [0], [], none⟩), (4, ⟨[], [], [8, 9, 10], [], none⟩), (5, ⟨[], [], [8, 9, 10], [], none⟩), (6, ⟨[], [], [4, 8, 9, 10], [], none⟩), (7, ⟨[], [], [8, 9, 10, 16], [], none⟩), (8, ⟨[], [], [8, 9, 10], [], none⟩), (9, ⟨[], [], [], [], none⟩)], kdL [], []⟩
def laws_zzFits3_g0 (N : Nat) (v1 : (List (List Int))) (r0 : Int → Option (Bool)) (v3 : Int) : Option (Bool) :=
  (bif (decide ((v3 : Int) < (v1.length : Int))) then ((nth v1 v3).bind fun v4 => (bif (decide (((v4.length : Int) : Int) > 2147483647)) then (some false) else ((r0 (IntKind.i64.wrap (v3 + 1)))))) else (some true))
def laws_zzFits3_l0 (N : Nat) : Nat → (List (List Int)) → Int → Option (Bool)
  | 0, _, _ => none
  | n + 1, v1, v3 => laws_zzFits3_g0 N v1 (laws_zzFits3_l0 N n v1) v3
def laws_zzFits3_g (N : Nat) (v1 : (List (List Int))) (c0 : (List (List Int)) → Int → Option (Bool)) : Option (Bool) :=
  (bif (decide (((v1.length : Int) : Int) > 2147483647)) then (some false) else ((c0 v1 0)))
def laws_zzFits3 (N : Nat) (v1 : (List (List Int))) : Option (Bool) :=
  laws_zzFits3_g N v1 (laws_zzFits3_l0 N N)
set_option maxRecDepth 100000
noncomputable def laws_zzFits3_e0 (N : Nat) (n : Nat) (v1 : (List (List Int))) (v3 : Int) : Option (HR [.bool]) :=
  loopN (advOf (laws_zzFits3_E N) (codeAt (bodyOf Try.f19) [1, 1, 0, 1, 0, 0])) (evC (laws_zzFits3_E N) (codeAt (bodyOf Try.f19) [1, 1, 0, 1, 0, 0])) n ⟨[(8, .pv (.list (.list (.int .i64))) v1), (9, .pv (.int .i64) (v1.length : Int)), (10, .pv (.int .i64) v3)], [], []⟩ (kBlock 0 (kSeq (advOf (laws_zzFits3_E N) (codeAt (bodyOf Try.f19) [1, 1, 1])) (evC (laws_zzFits3_E N) (codeAt (bodyOf Try.f19) [1, 1, 1])) (kEnd (laws_zzFits3_E N) [] Try.f19.results.toList [.bool])))
theorem laws_zzFits3_t0 (N : Nat) : ∀ (n : Nat) (v1 : (List (List Int))) (v3 : Int), laws_zzFits3_e0 N n v1 v3 = laws_zzFits3_l0 N n v1 v3
  | 0, _, _ => rfl
  | n + 1, v1, v3 => by
    have h : laws_zzFits3_e0 N n v1 = laws_zzFits3_l0 N n v1 := by funext v3; exact laws_zzFits3_t0 N n v1 v3
    exact (show laws_zzFits3_e0 N (n + 1) v1 v3 = laws_zzFits3_g0 N v1 (laws_zzFits3_e0 N n v1) v3 from by kernel_rfl).trans (by rw [h]; rfl)
theorem laws_zzFits3_t (N : Nat) (v1 : (List (List Int))) : evF (laws_zzFits3_E N) [] Try.f19 [.k (.list (.list (.int .i64)))] [.bool] (v1, ()) = laws_zzFits3 N v1 := by
  have h0 : (laws_zzFits3_e0 N N) = (laws_zzFits3_l0 N N) := by funext v1 v3; exact laws_zzFits3_t0 N N v1 v3
  exact (show evF (laws_zzFits3_E N) [] Try.f19 [.k (.list (.list (.int .i64)))] [.bool] (v1, ()) = laws_zzFits3_g N v1 (laws_zzFits3_e0 N N) from by kernel_rfl).trans (by rw [h0]; rfl)
noncomputable def laws_zzFits3_con (N : Nat) : Con := ⟨19, [.k (.list (.list (.int .i64)))], [.bool], fun x => laws_zzFits3 N x.1⟩
theorem laws_zzFits3_s (N : Nat) : (laws_zzFits3_con N).Sound Try.prog :=
  Con.sound_of (c := laws_zzFits3_con N) (E := (laws_zzFits3_E N)) (idle := []) Try.func19 (by kernel_rfl) (by kernel_rfl) ⟨allNil, allNil⟩ allNil (fun x y h => (laws_zzFits3_t N x.1).trans h)
/-- pub-orthodrome/laws.fStride -/
noncomputable def laws_fStride_E (N : Nat) : Env := ⟨Try.prog, N, [], [(0, ⟨[], [], [0], [], none⟩), (1, ⟨[], [], [0], [], none⟩)], kdL [], []⟩
def laws_fStride_g (N : Nat) (v1 : Int) : Option (Bool) :=
  (bif (decide ((v1 : Int) ≥ 2)) then (some (decide ((v1 : Int) ≤ 9))) else (some false))
def laws_fStride (N : Nat) (v1 : Int) : Option (Bool) :=
  laws_fStride_g N v1
set_option maxRecDepth 100000
theorem laws_fStride_t (N : Nat) (v1 : Int) : evF (laws_fStride_E N) [] Try.f27 [.k (.int .i64)] [.bool] (v1, ()) = laws_fStride N v1 := by
  exact (show evF (laws_fStride_E N) [] Try.f27 [.k (.int .i64)] [.bool] (v1, ()) = laws_fStride_g N v1 from by kernel_rfl).trans (by rfl)
noncomputable def laws_fStride_con (N : Nat) : Con := ⟨27, [.k (.int .i64)], [.bool], fun x => laws_fStride N x.1⟩
theorem laws_fStride_s (N : Nat) : (laws_fStride_con N).Sound Try.prog :=
  Con.sound_of (c := laws_fStride_con N) (E := (laws_fStride_E N)) (idle := []) Try.func27 (by kernel_rfl) (by kernel_rfl) ⟨allNil, allNil⟩ allNil (fun x y h => (laws_fStride_t N x.1).trans h)
/-- pub-orthodrome/laws.fLayout -/
noncomputable def laws_fLayout_E (N : Nat) : Env := ⟨Try.prog, N, [], [(0, ⟨[], [], [0], [], none⟩), (1, ⟨[], [], [0], [], none⟩), (2, ⟨[], [], [0, 4], [], none⟩), (3, ⟨[], [], [0], [], none⟩), (4, ⟨[], [], [0, 6], [], none⟩), (5, ⟨[], [], [0], [], none⟩)], kdL [], []⟩
def laws_fLayout_g (N : Nat) (v1 : Int) : Option (Int) :=
  (bif (v1 == 2) then (some 1) else (bif (v1 == 3) then (some 2) else (some v1)))
def laws_fLayout (N : Nat) (v1 : Int) : Option (Int) :=
  laws_fLayout_g N v1
set_option maxRecDepth 100000
theorem laws_fLayout_t (N : Nat) (v1 : Int) : evF (laws_fLayout_E N) [] Try.f30 [.k (.int .i64)] [(.int .i64)] (v1, ()) = laws_fLayout N v1 := by
  exact (show evF (laws_fLayout_E N) [] Try.f30 [.k (.int .i64)] [(.int .i64)] (v1, ()) = laws_fLayout_g N v1 from by kernel_rfl).trans (by rfl)
noncomputable def laws_fLayout_con (N : Nat) : Con := ⟨30, [.k (.int .i64)], [(.int .i64)], fun x => laws_fLayout N x.1⟩
theorem laws_fLayout_s (N : Nat) : (laws_fLayout_con N).Sound Try.prog :=
  Con.sound_of (c := laws_fLayout_con N) (E := (laws_fLayout_E N)) (idle := []) Try.func30 (by kernel_rfl) (by kernel_rfl) ⟨allNil, allNil⟩ allNil (fun x y h => (laws_fLayout_t N x.1).trans h)
/-- pub-orthodrome/spec.Weight -/
def spec_Weight_g1 (N : Nat) (self : Geo → Int → Option (Int)) (v2 : Int) (v1 : Geo) (r1 : Int → Int → Option (Int)) (v9 : Int) (v10 : Int) : Option (Int) :=
  (bif (decide ((v10 : Int) < (v1.kids.length : Int))) then ((nth v1.kids v10).bind fun v11 => (bif (decide ((v9 : Int) > v2)) then (some v9) else ((self (Geo.mk v11.kind v11.layout v11.srid v11.flat v11.ends v11.endss v11.kids) (IntKind.i64.wrap (v2 - v9))).bind fun v12 => ((r1 (IntKind.i64.wrap (v9 + v12)) (IntKind.i64.wrap (v10 + 1))))))) else (some v9))
def spec_Weight_l1 (N : Nat) (self : Geo → Int → Option (Int)) : Nat → Int → Geo → Int → Int → Option (Int)
  | 0, _, _, _, _ => none
  | n + 1, v2, v1, v9, v10 => spec_Weight_g1 N self v2 v1 (spec_Weight_l1 N self n v2 v1) v9 v10
def spec_Weight_g0 (N : Nat) (self : Geo → Int → Option (Int)) (v2 : Int) (v1 : Geo) (c1 : Int → Geo → Int → Int → Option (Int)) (r0 : Int → Int → Option (Int)) (v4 : Int) (v5 : Int) : Option (Int) :=
  (bif (decide ((v5 : Int) < (v1.endss.length : Int))) then ((nth v1.endss v5).bind fun v6 => ((r0 (IntKind.i64.wrap (v4 + (IntKind.i64.wrap (1 + (v6.length : Int))))) (IntKind.i64.wrap (v5 + 1))))) else ((c1 v2 v1 v4 0)))
def spec_Weight_l0 (N : Nat) (self : Geo → Int → Option (Int)) : Nat → Int → Geo → Int → Int → Option (Int)
  | 0, _, _, _, _ => none
  | n + 1, v2, v1, v4, v5 => spec_Weight_g0 N self v2 v1 (spec_Weight_l1 N self N) (spec_Weight_l0 N self n v2 v1) v4 v5
def spec_Weight_g (N : Nat) (self : Geo → Int → Option (Int)) (v1 : Geo) (v2 : Int) (c0 : Int → Geo → Int → Int → Option (Int)) : Option (Int) :=
  ((c0 v2 v1 (IntKind.i64.wrap ((IntKind.i64.wrap (1 + (v1.flat.length : Int))) + (v1.ends.length : Int))) 0))
def spec_Weight (N : Nat) : Nat → Geo → Int → Option (Int)
  | 0, _, _ => none
  | d + 1, v1, v2 => spec_Weight_g N (spec_Weight N d) v1 v2 (spec_Weight_l0 N (spec_Weight N d) N)
noncomputable def spec_Weight_con' (N : Nat) (d : Nat) : Con := ⟨138, [.k .geo, .k (.int .i64)], [(.int .i64)], fun x => spec_Weight N d x.1 x.2.1⟩
noncomputable def spec_Weight_E (N : Nat) (d : Nat) : Env := ⟨Try.prog, N, [spec_Weight_con' N d], [(0, ⟨[], [], [0, 1], [], none⟩), (1, ⟨[], [], [1, 2], [2], none⟩), (2, ⟨[], [], [1, 2, 5], [2], none⟩), (3, ⟨[], [], [1, 2, 5, 19, 20, 21], [2], none⟩), (4, ⟨[], [], [1, 2, 5, 19, 20, 21], [2], none⟩), (5, ⟨[], [], [1, 2, 5, 7, 19, 20, 21], [2], none⟩), (6, ⟨[], [], [1, 2, 5, 19, 20, 21], [2], none⟩), (7, ⟨[], [], [1, 2, 5], [2], none⟩), (8, ⟨[], [], [1, 5, 32, 33, 34], [], none⟩), (9, ⟨[], [], [1, 5, 32, 33, 34], [], none⟩), (10, ⟨[], [], [1, 5, 9, 32, 33, 34], [9], none⟩), (11, ⟨[], [], [1, 5, 9, 32, 33, 34, 40], [9], none⟩), (12, ⟨[], [], [1, 5, 9, 32, 33, 34], [9], none⟩), (13, ⟨[], [], [1, 5, 32, 33, 34], [], none⟩), (14, ⟨[], [], [5], [], none⟩)], kdL [], []⟩
set_option maxRecDepth 100000
noncomputable def spec_Weight_e1 (N : Nat) (d : Nat) (n : Nat) (v2 : Int) (v1 : Geo) (v9 : Int) (v10 : Int) : Option (HR [(.int .i64)]) :=
  loopN (advOf (spec_Weight_E N d) (codeAt (bodyOf Try.f138) [1, 1, 1, 0, 1, 0, 0])) (evC (spec_Weight_E N d) (codeAt (bodyOf Try.f138) [1, 1, 1, 0, 1, 0, 0])) n ⟨[(1, .pv (.int .i64) v2), (5, .pv (.int .i64) v9), (32, .pv (.list .geo) v1.kids), (33, .pv (.int .i64) (v1.kids.length : Int)), (34, .pv (.int .i64) v10)], [], []⟩ (kBlock 2 (kSeq (advOf (spec_Weight_E N d) (codeAt (bodyOf Try.f138) [1, 1, 1, 1])) (evC (spec_Weight_E N d) (codeAt (bodyOf Try.f138) [1, 1, 1, 1])) (kEnd (spec_Weight_E N d) [] Try.f138.results.toList [(.int .i64)])))
noncomputable def spec_Weight_e0 (N : Nat) (d : Nat) (n : Nat) (v2 : Int) (v1 : Geo) (v4 : Int) (v5 : Int) : Option (HR [(.int .i64)]) :=
  loopN (advOf (spec_Weight_E N d) (codeAt (bodyOf Try.f138) [1, 1, 0, 1, 0, 0])) (evC (spec_Weight_E N d) (codeAt (bodyOf Try.f138) [1, 1, 0, 1, 0, 0])) n ⟨[(1, .pv (.int .i64) v2), (2, .ref 2 0), (5, .pv (.int .i64) v4), (19, .pv (.list (.list (.int .i64))) v1.endss), (20, .pv (.int .i64) (v1.endss.length : Int)), (21, .pv (.int .i64) v5)], [(2, .box [.pv (.int .i64) v1.kind, .pv (.int .i64) v1.layout, .pv (.int .i64) v1.srid, .pv (.list .float) v1.flat, .pv (.list (.int .i64)) v1.ends, .pv (.list (.list (.int .i64))) v1.endss, .pv (.list .geo) v1.kids])], []⟩ (kBlock 0 (kSeq (advOf (spec_Weight_E N d) (codeAt (bodyOf Try.f138) [1, 1, 1])) (evC (spec_Weight_E N d) (codeAt (bodyOf Try.f138) [1, 1, 1])) (kEnd (spec_Weight_E N d) [] Try.f138.results.toList [(.int .i64)])))
theorem spec_Weight_t1 (N : Nat) (d : Nat) : ∀ (n : Nat) (v2 : Int) (v1 : Geo) (v9 : Int) (v10 : Int), spec_Weight_e1 N d n v2 v1 v9 v10 = spec_Weight_l1 N (spec_Weight N d) n v2 v1 v9 v10
  | 0, _, _, _, _ => rfl
  | n + 1, v2, v1, v9, v10 => by
    have h : spec_Weight_e1 N d n v2 v1 = spec_Weight_l1 N (spec_Weight N d) n v2 v1 := by funext v9 v10; exact spec_Weight_t1 N d n v2 v1 v9 v10
    exact (show spec_Weight_e1 N d (n + 1) v2 v1 v9 v10 = spec_Weight_g1 N (spec_Weight N d) v2 v1 (spec_Weight_e1 N d n v2 v1) v9 v10 from by kernel_rfl).trans (by rw [h]; rfl)
theorem spec_Weight_t0 (N : Nat) (d : Nat) : ∀ (n : Nat) (v2 : Int) (v1 : Geo) (v4 : Int) (v5 : Int), spec_Weight_e0 N d n v2 v1 v4 v5 = spec_Weight_l0 N (spec_Weight N d) n v2 v1 v4 v5
  | 0, _, _, _, _ => rfl
  | n + 1, v2, v1, v4, v5 => by
    have h1 : (spec_Weight_e1 N d N) = (spec_Weight_l1 N (spec_Weight N d) N) := by funext v2 v1 v9 v10; exact spec_Weight_t1 N d N v2 v1 v9 v10
    have h : spec_Weight_e0 N d n v2 v1 = spec_Weight_l0 N (spec_Weight N d) n v2 v1 := by funext v4 v5; exact spec_Weight_t0 N d n v2 v1 v4 v5
    exact (show spec_Weight_e0 N d (n + 1) v2 v1 v4 v5 = spec_Weight_g0 N (spec_Weight N d) v2 v1 (spec_Weight_e1 N d N) (spec_Weight_e0 N d n v2 v1) v4 v5 from by kernel_rfl).trans (by rw [h1, h]; rfl)
theorem spec_Weight_t (N : Nat) (d : Nat) (v1 : Geo) (v2 : Int) : evF (spec_Weight_E N d) [] Try.f138 [.k .geo, .k (.int .i64)] [(.int .i64)] (v1, v2, ()) = spec_Weight N (d + 1) v1 v2 := by
  have h0 : (spec_Weight_e0 N d N) = (spec_Weight_l0 N (spec_Weight N d) N) := by funext v2 v1 v4 v5; exact spec_Weight_t0 N d N v2 v1 v4 v5
  exact (show evF (spec_Weight_E N d) [] Try.f138 [.k .geo, .k (.int .i64)] [(.int .i64)] (v1, v2, ()) = spec_Weight_g N (spec_Weight N d) v1 v2 (spec_Weight_e0 N d N) from by kernel_rfl).trans (by rw [h0]; rfl)
theorem spec_Weight_s' (N : Nat) : ∀ d, (spec_Weight_con' N d).Sound Try.prog
  | 0 => fun _ _ _ _ _ _ _ h => by cases h
  | d + 1 => Con.sound_of (c := spec_Weight_con' N (d + 1)) (E := (spec_Weight_E N d)) (idle := []) Try.func138 (by kernel_rfl) (by kernel_rfl) ⟨(allCons (spec_Weight_s' N d) allNil), allNil⟩ allNil (fun x y h => (spec_Weight_t N d x.1 x.2.1).trans h)
noncomputable def spec_Weight_con (N : Nat) : Con := spec_Weight_con' N N
theorem spec_Weight_s (N : Nat) : (spec_Weight_con N).Sound Try.prog := spec_Weight_s' N N
/-- pub-orthodrome/laws.gLayouts -/
def laws_gLayouts_g0 (N : Nat) (self : Geo → Int → Option (Bool)) (v2 : Int) (v1 : Geo) (r0 : Int → Option (Bool)) (v5 : Int) : Option (Bool) :=
  (bif (decide ((v5 : Int) < (v1.kids.length : Int))) then ((nth v1.kids v5).bind fun v6 => ((self (Geo.mk v6.kind v6.layout v6.srid v6.flat v6.ends v6.endss v6.kids) v2).bind fun v7 => (bif (!v7) then (some false) else ((r0 (IntKind.i64.wrap (v5 + 1))))))) else (bif (decide ((v1.layout : Int) ≤ v2)) then (bif (decide ((v1.layout : Int) ≥ 1)) then (some true) else (bif (v1.kind == 7) then (some (decide ((v1.layout : Int) ≥ 0))) else (some false))) else (some false)))
def laws_gLayouts_l0 (N : Nat) (self : Geo → Int → Option (Bool)) : Nat → Int → Geo → Int → Option (Bool)
  | 0, _, _, _ => none
  | n + 1, v2, v1, v5 => laws_gLayouts_g0 N self v2 v1 (laws_gLayouts_l0 N self n v2 v1) v5
def laws_gLayouts_g (N : Nat) (self : Geo → Int → Option (Bool)) (v1 : Geo) (v2 : Int) (c0 : Int → Geo → Int → Option (Bool)) : Option (Bool) :=
  ((c0 v2 v1 0))
def laws_gLayouts (N : Nat) : Nat → Geo → Int → Option (Bool)
  | 0, _, _ => none
  | d + 1, v1, v2 => laws_gLayouts_g N (laws_gLayouts N d) v1 v2 (laws_gLayouts_l0 N (laws_gLayouts N d) N)
noncomputable def laws_gLayouts_con' (N : Nat) (d : Nat) : Con := ⟨139, [.k .geo, .k (.int .i64)], [.bool], fun x => laws_gLayouts N d x.1 x.2.1⟩
noncomputable def laws_gLayouts_E (N : Nat) (d : Nat) : Env := ⟨Try.prog, N, [laws_gLayouts_con' N d], [(0, ⟨[], [], [0, 1], [], none⟩), (1, ⟨[], [], [1, 2], [2], none⟩), (2, ⟨[], [], [1, 2, 8, 9, 10], [2], none⟩), (3, ⟨[], [], [1, 2, 8, 9, 10], [2], none⟩), (4, ⟨[], [], [1, 2, 6, 8, 9, 10], [2, 6], none⟩), (5, ⟨[], [], [1, 2, 8, 9, 10, 17], [2], none⟩), (6, ⟨[], [], [1, 2, 8, 9, 10], [2], none⟩), (7, ⟨[], [], [1, 2], [2], none⟩)], kdL [], []⟩
set_option maxRecDepth 100000
noncomputable def laws_gLayouts_e0 (N : Nat) (d : Nat) (n : Nat) (v2 : Int) (v1 : Geo) (v5 : Int) : Option (HR [.bool]) :=
  loopN (advOf (laws_gLayouts_E N d) (codeAt (bodyOf Try.f139) [1, 0, 1, 0, 0])) (evC (laws_gLayouts_E N d) (codeAt (bodyOf Try.f139) [1, 0, 1, 0, 0])) n ⟨[(1, .pv (.int .i64) v2), (2, .ref 2 0), (8, .pv (.list .geo) v1.kids), (9, .pv (.int .i64) (v1.kids.length : Int)), (10, .pv (.int .i64) v5)], [(2, .box [.pv (.int .i64) v1.kind, .pv (.int .i64) v1.layout, .pv (.int .i64) v1.srid, .pv (.list .float) v1.flat, .pv (.list (.int .i64)) v1.ends, .pv (.list (.list (.int .i64))) v1.endss, .pv (.list .geo) v1.kids])], []⟩ (kBlock 0 (kSeq (advOf (laws_gLayouts_E N d) (codeAt (bodyOf Try.f139) [1, 1])) (evC (laws_gLayouts_E N d) (codeAt (bodyOf Try.f139) [1, 1])) (kEnd (laws_gLayouts_E N d) [] Try.f139.results.toList [.bool])))
theorem laws_gLayouts_t0 (N : Nat) (d : Nat) : ∀ (n : Nat) (v2 : Int) (v1 : Geo) (v5 : Int), laws_gLayouts_e0 N d n v2 v1 v5 = laws_gLayouts_l0 N (laws_gLayouts N d) n v2 v1 v5
  | 0, _, _, _ => rfl
  | n + 1, v2, v1, v5 => by
    have h : laws_gLayouts_e0 N d n v2 v1 = laws_gLayouts_l0 N (laws_gLayouts N d) n v2 v1 := by funext v5; exact laws_gLayouts_t0 N d n v2 v1 v5
    exact (show laws_gLayouts_e0 N d (n + 1) v2 v1 v5 = laws_gLayouts_g0 N (laws_gLayouts N d) v2 v1 (laws_gLayouts_e0 N d n v2 v1) v5 from by kernel_rfl).trans (by rw [h]; rfl)
theorem laws_gLayouts_t (N : Nat) (d : Nat) (v1 : Geo) (v2 : Int) : evF (laws_gLayouts_E N d) [] Try.f139 [.k .geo, .k (.int .i64)] [.bool] (v1, v2, ()) = laws_gLayouts N (d + 1) v1 v2 := by
  have h0 : (laws_gLayouts_e0 N d N) = (laws_gLayouts_l0 N (laws_gLayouts N d) N) := by funext v2 v1 v5; exact laws_gLayouts_t0 N d N v2 v1 v5
  exact (show evF (laws_gLayouts_E N d) [] Try.f139 [.k .geo, .k (.int .i64)] [.bool] (v1, v2, ()) = laws_gLayouts_g N (laws_gLayouts N d) v1 v2 (laws_gLayouts_e0 N d N) from by kernel_rfl).trans (by rw [h0]; rfl)
theorem laws_gLayouts_s' (N : Nat) : ∀ d, (laws_gLayouts_con' N d).Sound Try.prog
  | 0 => fun _ _ _ _ _ _ _ h => by cases h
  | d + 1 => Con.sound_of (c := laws_gLayouts_con' N (d + 1)) (E := (laws_gLayouts_E N d)) (idle := []) Try.func139 (by kernel_rfl) (by kernel_rfl) ⟨(allCons (laws_gLayouts_s' N d) allNil), allNil⟩ allNil (fun x y h => (laws_gLayouts_t N d x.1 x.2.1).trans h)
noncomputable def laws_gLayouts_con (N : Nat) : Con := laws_gLayouts_con' N N
theorem laws_gLayouts_s (N : Nat) : (laws_gLayouts_con N).Sound Try.prog := laws_gLayouts_s' N N
/-- pub-orthodrome/laws.gSmall -/
noncomputable def laws_gSmall_E (N : Nat) : Env := ⟨Try.prog, N, [spec_Weight_con N, laws_gLayouts_con N], [(0, ⟨[], [], [0], [], none⟩), (1, ⟨[], [], [0], [], none⟩), (2, ⟨[], [], [0, 3], [], none⟩), (3, ⟨[], [], [3, 6, 7, 8], [], none⟩), (4, ⟨[], [], [3, 6, 7, 8], [], none⟩), (5, ⟨[], [], [3, 5, 6, 7, 8], [5], none⟩), (6, ⟨[], [], [3, 5, 6, 7, 8], [5], none⟩), (7, ⟨[], [], [3, 6, 7, 8, 23], [], none⟩), (8, ⟨[], [], [3, 6, 7, 8], [], none⟩), (9, ⟨[], [], [], [], none⟩)], kdL [], []⟩
def laws_gSmall_g0 (N : Nat) (v1 : (List Geo)) (r0 : Int → Int → Option (Bool)) (v5 : Int) (v6 : Int) : Option (Bool) :=
  (bif (decide ((v6 : Int) < (v1.length : Int))) then ((nth v1 v6).bind fun v7 => ((spec_Weight N N (Geo.mk v7.kind v7.layout v7.srid v7.flat v7.ends v7.endss v7.kids) v5).bind fun v8 => (bif (decide (((IntKind.i64.wrap (v5 - v8)) : Int) < 0)) then (some false) else ((laws_gLayouts N N (Geo.mk v7.kind v7.layout v7.srid v7.flat v7.ends v7.endss v7.kids) 9).bind fun v9 => (bif (!v9) then (some false) else ((r0 (IntKind.i64.wrap (v5 - v8)) (IntKind.i64.wrap (v6 + 1))))))))) else (some true))
def laws_gSmall_l0 (N : Nat) : Nat → (List Geo) → Int → Int → Option (Bool)
  | 0, _, _, _ => none
  | n + 1, v1, v5, v6 => laws_gSmall_g0 N v1 (laws_gSmall_l0 N n v1) v5 v6
def laws_gSmall_g (N : Nat) (v1 : (List Geo)) (c0 : (List Geo) → Int → Int → Option (Bool)) : Option (Bool) :=
  ((c0 v1 2000 0))
def laws_gSmall (N : Nat) (v1 : (List Geo)) : Option (Bool) :=
  laws_gSmall_g N v1 (laws_gSmall_l0 N N)
set_option maxRecDepth 100000
noncomputable def laws_gSmall_e0 (N : Nat) (n : Nat) (v1 : (List Geo)) (v5 : Int) (v6 : Int) : Option (HR [.bool]) :=
  loopN (advOf (laws_gSmall_E N) (codeAt (bodyOf Try.f114) [1, 1, 0, 1, 0, 0])) (evC (laws_gSmall_E N) (codeAt (bodyOf Try.f114) [1, 1, 0, 1, 0, 0])) n ⟨[(3, .pv (.int .i64) v5), (6, .pv (.list .geo) v1), (7, .pv (.int .i64) (v1.length : Int)), (8, .pv (.int .i64) v6)], [], []⟩ (kBlock 0 (kSeq (advOf (laws_gSmall_E N) (codeAt (bodyOf Try.f114) [1, 1, 1])) (evC (laws_gSmall_E N) (codeAt (bodyOf Try.f114) [1, 1, 1])) (kEnd (laws_gSmall_E N) [] Try.f114.results.toList [.bool])))
theorem laws_gSmall_t0 (N : Nat) : ∀ (n : Nat) (v1 : (List Geo)) (v5 : Int) (v6 : Int), laws_gSmall_e0 N n v1 v5 v6 = laws_gSmall_l0 N n v1 v5 v6
  | 0, _, _, _ => rfl
  | n + 1, v1, v5, v6 => by
    have h : laws_gSmall_e0 N n v1 = laws_gSmall_l0 N n v1 := by funext v5 v6; exact laws_gSmall_t0 N n v1 v5 v6
    exact (show laws_gSmall_e0 N (n + 1) v1 v5 v6 = laws_gSmall_g0 N v1 (laws_gSmall_e0 N n v1) v5 v6 from by kernel_rfl).trans (by rw [h]; rfl)
theorem laws_gSmall_t (N : Nat) (v1 : (List Geo)) : evF (laws_gSmall_E N) [] Try.f114 [.k (.list .geo)] [.bool] (v1, ()) = laws_gSmall N v1 := by
  have h0 : (laws_gSmall_e0 N N) = (laws_gSmall_l0 N N) := by funext v1 v5 v6; exact laws_gSmall_t0 N N v1 v5 v6
  exact (show evF (laws_gSmall_E N) [] Try.f114 [.k (.list .geo)] [.bool] (v1, ()) = laws_gSmall_g N v1 (laws_gSmall_e0 N N) from by kernel_rfl).trans (by rw [h0]; rfl)
noncomputable def laws_gSmall_con (N : Nat) : Con := ⟨114, [.k (.list .geo)], [.bool], fun x => laws_gSmall N x.1⟩
theorem laws_gSmall_s (N : Nat) : (laws_gSmall_con N).Sound Try.prog :=
  Con.sound_of (c := laws_gSmall_con N) (E := (laws_gSmall_E N)) (idle := []) Try.func114 (by kernel_rfl) (by kernel_rfl) ⟨(allCons (spec_Weight_s N) (allCons (laws_gLayouts_s N) allNil)), allNil⟩ allNil (fun x y h => (laws_gSmall_t N x.1).trans h)
/-- pub-orthodrome/spec.Cover -/
noncomputable def spec_Cover_E (N : Nat) : Env := ⟨Try.prog, N, [], [(0, ⟨[], [], [0, 1], [], none⟩), (1, ⟨[], [], [0, 1], [], none⟩), (2, ⟨[], [], [0, 1, 18], [], some N⟩), (3, ⟨[], [], [0, 1], [], some N⟩)], kdL [], []⟩
def spec_Cover_g2 (N : Nat) (v1 : Int) (v2 : Int) : Option (Int) :=
  (some (imm true v1 v2))
def spec_Cover_j2 (N : Nat) (v1 : Int) (v2 : Int) : Option (Int) :=
  gate N (spec_Cover_g2 N v1 v2)
def spec_Cover_g0 (N : Nat) (v1 : Int) (v2 : Int) (c2 : Int → Int → Option (Int)) : Option (Int) :=
  bif (v2 == 2) then (some 4) else (c2 v1 v2)
def spec_Cover_j0 (N : Nat) (v1 : Int) (v2 : Int) : Option (Int) :=
  gate N (spec_Cover_g0 N v1 v2 (spec_Cover_j2 N))
def spec_Cover_g1 (N : Nat) (v1 : Int) (v2 : Int) (c2 : Int → Int → Option (Int)) : Option (Int) :=
  (c2 v1 v2)
def spec_Cover_j1 (N : Nat) (v1 : Int) (v2 : Int) : Option (Int) :=
  gate N (spec_Cover_g1 N v1 v2 (spec_Cover_j2 N))
def spec_Cover_g (N : Nat) (v1 : Int) (v2 : Int) (c0 : Int → Int → Option (Int)) (c1 : Int → Int → Option (Int)) : Option (Int) :=
  (bif (v1 == 2) then (bif (v2 == 3) then (gate N (some 4)) else (bif (v1 == 3) then (c0 v1 v2) else (c1 v1 v2))) else (bif (v1 == 3) then (c0 v1 v2) else (c1 v1 v2)))
def spec_Cover (N : Nat) (v1 : Int) (v2 : Int) : Option (Int) :=
  spec_Cover_g N v1 v2 (spec_Cover_j0 N) (spec_Cover_j1 N)
set_option maxRecDepth 100000
noncomputable def spec_Cover_e2 (N : Nat) (v1 : Int) (v2 : Int) : Option (HR [(.int .i64)]) :=
  gate N (evC (spec_Cover_E N) (codeAt (bodyOf Try.f157) [1, 1]) ⟨[(0, .pv (.int .i64) v1), (1, .pv (.int .i64) v2)], [], []⟩ (kEnd (spec_Cover_E N) [] Try.f157.results.toList [(.int .i64)]))
noncomputable def spec_Cover_e0 (N : Nat) (v1 : Int) (v2 : Int) : Option (HR [(.int .i64)]) :=
  gate N (evC (spec_Cover_E N) (codeAt (bodyOf Try.f157) [1, 0, 1]) ⟨[(0, .pv (.int .i64) v1), (1, .pv (.int .i64) v2), (18, .pv .bool (v2 == 2))], [], []⟩ (kSeq (advOf (spec_Cover_E N) (codeAt (bodyOf Try.f157) [1, 1])) (evC (spec_Cover_E N) (codeAt (bodyOf Try.f157) [1, 1])) (kEnd (spec_Cover_E N) [] Try.f157.results.toList [(.int .i64)])))
noncomputable def spec_Cover_e1 (N : Nat) (v1 : Int) (v2 : Int) : Option (HR [(.int .i64)]) :=
  gate N (evC (spec_Cover_E N) (codeAt (bodyOf Try.f157) [1, 0, 1]) ⟨[(0, .pv (.int .i64) v1), (1, .pv (.int .i64) v2), (18, .pv .bool false)], [], []⟩ (kSeq (advOf (spec_Cover_E N) (codeAt (bodyOf Try.f157) [1, 1])) (evC (spec_Cover_E N) (codeAt (bodyOf Try.f157) [1, 1])) (kEnd (spec_Cover_E N) [] Try.f157.results.toList [(.int .i64)])))
theorem spec_Cover_t2 (N : Nat) (v1 : Int) (v2 : Int) : spec_Cover_e2 N v1 v2 = spec_Cover_j2 N v1 v2 := by
  exact (congrArg (gate N) (show evC (spec_Cover_E N) (codeAt (bodyOf Try.f157) [1, 1]) ⟨[(0, .pv (.int .i64) v1), (1, .pv (.int .i64) v2)], [], []⟩ (kEnd (spec_Cover_E N) [] Try.f157.results.toList [(.int .i64)]) = spec_Cover_g2 N v1 v2 from by kernel_rfl)).trans (by rfl)
theorem spec_Cover_t0 (N : Nat) (v1 : Int) (v2 : Int) : spec_Cover_e0 N v1 v2 = spec_Cover_j0 N v1 v2 := by
  have h2 : (spec_Cover_e2 N) = (spec_Cover_j2 N) := by funext v1 v2; exact spec_Cover_t2 N v1 v2
  exact (congrArg (gate N) (show evC (spec_Cover_E N) (codeAt (bodyOf Try.f157) [1, 0, 1]) ⟨[(0, .pv (.int .i64) v1), (1, .pv (.int .i64) v2), (18, .pv .bool (v2 == 2))], [], []⟩ (kSeq (advOf (spec_Cover_E N) (codeAt (bodyOf Try.f157) [1, 1])) (evC (spec_Cover_E N) (codeAt (bodyOf Try.f157) [1, 1])) (kEnd (spec_Cover_E N) [] Try.f157.results.toList [(.int .i64)])) = spec_Cover_g0 N v1 v2 (spec_Cover_e2 N) from by kernel_rfl)).trans (by rw [h2]; rfl)
theorem spec_Cover_t1 (N : Nat) (v1 : Int) (v2 : Int) : spec_Cover_e1 N v1 v2 = spec_Cover_j1 N v1 v2 := by
  have h2 : (spec_Cover_e2 N) = (spec_Cover_j2 N) := by funext v1 v2; exact spec_Cover_t2 N v1 v2
  exact (congrArg (gate N) (show evC (spec_Cover_E N) (codeAt (bodyOf Try.f157) [1, 0, 1]) ⟨[(0, .pv (.int .i64) v1), (1, .pv (.int .i64) v2), (18, .pv .bool false)], [], []⟩ (kSeq (advOf (spec_Cover_E N) (codeAt (bodyOf Try.f157) [1, 1])) (evC (spec_Cover_E N) (codeAt (bodyOf Try.f157) [1, 1])) (kEnd (spec_Cover_E N) [] Try.f157.results.toList [(.int .i64)])) = spec_Cover_g1 N v1 v2 (spec_Cover_e2 N) from by kernel_rfl)).trans (by rw [h2]; rfl)
theorem spec_Cover_t (N : Nat) (v1 : Int) (v2 : Int) : evF (spec_Cover_E N) [] Try.f157 [.k (.int .i64), .k (.int .i64)] [(.int .i64)] (v1, v2, ()) = spec_Cover N v1 v2 := by
  have h0 : (spec_Cover_e0 N) = (spec_Cover_j0 N) := by funext v1 v2; exact spec_Cover_t0 N v1 v2
  have h1 : (spec_Cover_e1 N) = (spec_Cover_j1 N) := by funext v1 v2; exact spec_Cover_t1 N v1 v2
  exact (show evF (spec_Cover_E N) [] Try.f157 [.k (.int .i64), .k (.int .i64)] [(.int .i64)] (v1, v2, ()) = spec_Cover_g N v1 v2 (spec_Cover_e0 N) (spec_Cover_e1 N) from by kernel_rfl).trans (by rw [h0, h1]; rfl)
noncomputable def spec_Cover_con (N : Nat) : Con := ⟨157, [.k (.int .i64), .k (.int .i64)], [(.int .i64)], fun x => spec_Cover N x.1 x.2.1⟩
theorem spec_Cover_s (N : Nat) : (spec_Cover_con N).Sound Try.prog :=
  Con.sound_of (c := spec_Cover_con N) (E := (spec_Cover_E N)) (idle := []) Try.func157 (by kernel_rfl) (by kernel_rfl) ⟨allNil, allNil⟩ allNil (fun x y h => (spec_Cover_t N x.1 x.2.1).trans h)
/-- pub-orthodrome/spec.LayoutOf -/
def spec_LayoutOf_g0 (N : Nat) (self : Geo → Option (Int)) (v1 : Geo) (r0 : Int → Int → Option (Int)) (v5 : Int) (v6 : Int) : Option (Int) :=
  (bif (decide ((v6 : Int) < (v1.kids.length : Int))) then ((nth v1.kids v6).bind fun v7 => ((self (Geo.mk v7.kind v7.layout v7.srid v7.flat v7.ends v7.endss v7.kids)).bind fun v8 => (spec_Cover N v5 v8).bind fun v9 => ((r0 v9 (IntKind.i64.wrap (v6 + 1)))))) else (some v5))
def spec_LayoutOf_l0 (N : Nat) (self : Geo → Option (Int)) : Nat → Geo → Int → Int → Option (Int)
  | 0, _, _, _ => none
  | n + 1, v1, v5, v6 => spec_LayoutOf_g0 N self v1 (spec_LayoutOf_l0 N self n v1) v5 v6
def spec_LayoutOf_g (N : Nat) (self : Geo → Option (Int)) (v1 : Geo) (c0 : Geo → Int → Int → Option (Int)) : Option (Int) :=
  (bif (v1.kind != 7) then (some v1.layout) else (bif (v1.layout != 0) then (some v1.layout) else ((c0 v1 v1.layout 0))))
def spec_LayoutOf (N : Nat) : Nat → Geo → Option (Int)
  | 0, _ => none
  | d + 1, v1 => spec_LayoutOf_g N (spec_LayoutOf N d) v1 (spec_LayoutOf_l0 N (spec_LayoutOf N d) N)
noncomputable def spec_LayoutOf_con' (N : Nat) (d : Nat) : Con := ⟨140, [.k .geo], [(.int .i64)], fun x => spec_LayoutOf N d x.1⟩
noncomputable def spec_LayoutOf_E (N : Nat) (d : Nat) : Env := ⟨Try.prog, N, [spec_LayoutOf_con' N d, spec_Cover_con N], [(0, ⟨[], [], [0], [], none⟩), (1, ⟨[], [], [1], [1], none⟩), (2, ⟨[], [], [1, 3], [1], none⟩), (3, ⟨[], [], [1, 3, 14], [1], none⟩), (4, ⟨[], [], [1, 3], [1], none⟩), (5, ⟨[], [], [3, 17, 18, 19], [], none⟩), (6, ⟨[], [], [3, 17, 18, 19], [], none⟩), (7, ⟨[], [], [3, 5, 17, 18, 19], [5], none⟩), (8, ⟨[], [], [3, 17, 18, 19], [], none⟩), (9, ⟨[], [], [3], [], none⟩)], kdL [], []⟩
set_option maxRecDepth 100000
noncomputable def spec_LayoutOf_e0 (N : Nat) (d : Nat) (n : Nat) (v1 : Geo) (v5 : Int) (v6 : Int) : Option (HR [(.int .i64)]) :=
  loopN (advOf (spec_LayoutOf_E N d) (codeAt (bodyOf Try.f140) [1, 1, 1, 0, 1, 0, 0])) (evC (spec_LayoutOf_E N d) (codeAt (bodyOf Try.f140) [1, 1, 1, 0, 1, 0, 0])) n ⟨[(3, .pv (.int .i64) v5), (17, .pv (.list .geo) v1.kids), (18, .pv (.int .i64) (v1.kids.length : Int)), (19, .pv (.int .i64) v6)], [], []⟩ (kBlock 0 (kSeq (advOf (spec_LayoutOf_E N d) (codeAt (bodyOf Try.f140) [1, 1, 1, 1])) (evC (spec_LayoutOf_E N d) (codeAt (bodyOf Try.f140) [1, 1, 1, 1])) (kEnd (spec_LayoutOf_E N d) [] Try.f140.results.toList [(.int .i64)])))
theorem spec_LayoutOf_t0 (N : Nat) (d : Nat) : ∀ (n : Nat) (v1 : Geo) (v5 : Int) (v6 : Int), spec_LayoutOf_e0 N d n v1 v5 v6 = spec_LayoutOf_l0 N (spec_LayoutOf N d) n v1 v5 v6
  | 0, _, _, _ => rfl
  | n + 1, v1, v5, v6 => by
    have h : spec_LayoutOf_e0 N d n v1 = spec_LayoutOf_l0 N (spec_LayoutOf N d) n v1 := by funext v5 v6; exact spec_LayoutOf_t0 N d n v1 v5 v6
    exact (show spec_LayoutOf_e0 N d (n + 1) v1 v5 v6 = spec_LayoutOf_g0 N (spec_LayoutOf N d) v1 (spec_LayoutOf_e0 N d n v1) v5 v6 from by kernel_rfl).trans (by rw [h]; rfl)
theorem spec_LayoutOf_t (N : Nat) (d : Nat) (v1 : Geo) : evF (spec_LayoutOf_E N d) [] Try.f140 [.k .geo] [(.int .i64)] (v1, ()) = spec_LayoutOf N (d + 1) v1 := by
  have h0 : (spec_LayoutOf_e0 N d N) = (spec_LayoutOf_l0 N (spec_LayoutOf N d) N) := by funext v1 v5 v6; exact spec_LayoutOf_t0 N d N v1 v5 v6
  exact (show evF (spec_LayoutOf_E N d) [] Try.f140 [.k .geo] [(.int .i64)] (v1, ()) = spec_LayoutOf_g N (spec_LayoutOf N d) v1 (spec_LayoutOf_e0 N d N) from by kernel_rfl).trans (by rw [h0]; rfl)
theorem spec_LayoutOf_s' (N : Nat) : ∀ d, (spec_LayoutOf_con' N d).Sound Try.prog
  | 0 => fun _ _ _ _ _ _ _ h => by cases h
  | d + 1 => Con.sound_of (c := spec_LayoutOf_con' N (d + 1)) (E := (spec_LayoutOf_E N d)) (idle := []) Try.func140 (by kernel_rfl) (by kernel_rfl) ⟨(allCons (spec_LayoutOf_s' N d) (allCons (spec_Cover_s N) allNil)), allNil⟩ allNil (fun x y h => (spec_LayoutOf_t N d x.1).trans h)
noncomputable def spec_LayoutOf_con (N : Nat) : Con := spec_LayoutOf_con' N N
theorem spec_LayoutOf_s (N : Nat) : (spec_LayoutOf_con N).Sound Try.prog := spec_LayoutOf_s' N N
/-- pub-orthodrome/spec.goodEnds -/
noncomputable def spec_goodEnds_E (N : Nat) : Env := ⟨Try.prog, N, [], [(0, ⟨[], [], [0, 1, 2, 3], [], none⟩), (1, ⟨[], [], [0, 1, 2, 3], [], none⟩), (2, ⟨[], [], [1, 2, 3, 12, 13, 14], [], none⟩), (3, ⟨[], [], [1, 2, 3, 12, 13, 14], [], none⟩), (4, ⟨[], [], [1, 2, 3, 11, 12, 13, 14], [], none⟩), (5, ⟨[], [], [1, 2, 3, 11, 12, 13, 14, 38], [], some N⟩), (6, ⟨[], [], [2, 3, 11, 12, 13, 14], [], some N⟩), (7, ⟨[], [], [1, 2, 3, 12, 13, 14], [], none⟩), (8, ⟨[], [], [1], [], none⟩)], kdL [], []⟩
def spec_goodEnds_g1 (N : Nat) (v3 : Int) (v4 : Bool) (v1 : (List Int)) (v6 : Int) (v8 : Int) (v7 : Int) (r0 : Int → Int → Option (Int × Bool)) : Option (Int × Bool) :=
  (some (v6, false))
def spec_goodEnds_j1 (N : Nat) (r0 : Int → Int → Option (Int × Bool)) (v3 : Int) (v4 : Bool) (v1 : (List Int)) (v6 : Int) (v8 : Int) (v7 : Int) : Option (Int × Bool) :=
  gate N (spec_goodEnds_g1 N v3 v4 v1 v6 v8 v7 r0)
def spec_goodEnds_g2 (N : Nat) (v3 : Int) (v4 : Bool) (v1 : (List Int)) (v8 : Int) (v7 : Int) (r0 : Int → Int → Option (Int × Bool)) : Option (Int × Bool) :=
  ((r0 v8 (IntKind.i64.wrap (v7 + 1))))
def spec_goodEnds_j2 (N : Nat) (r0 : Int → Int → Option (Int × Bool)) (v3 : Int) (v4 : Bool) (v1 : (List Int)) (v8 : Int) (v7 : Int) : Option (Int × Bool) :=
  gate N (spec_goodEnds_g2 N v3 v4 v1 v8 v7 r0)
def spec_goodEnds_g0 (N : Nat) (v3 : Int) (v4 : Bool) (v1 : (List Int)) (c1 : Int → Int → Int → Option (Int × Bool)) (c2 : Int → Int → Option (Int × Bool)) (r0 : Int → Int → Option (Int × Bool)) (v6 : Int) (v7 : Int) : Option (Int × Bool) :=
  (bif (decide ((v7 : Int) < (v1.length : Int))) then ((nth v1 v7).bind fun v8 => (bif (decide ((v8 : Int) < v6)) then (c1 v6 v8 v7) else (if v3 = 0 then none else bif ((Int.tmod (IntKind.i64.wrap (v8 - v6)) v3) != 0) then (c1 v6 v8 v7) else (bif v4 then (gate N (bif (decide (((IntKind.i64.wrap (v8 - v6)) : Int) > v3)) then (some (v6, false)) else (c2 v8 v7))) else (gate N (c2 v8 v7)))))) else (some (v6, true)))
def spec_goodEnds_l0 (N : Nat) : Nat → Int → Bool → (List Int) → Int → Int → Option (Int × Bool)
  | 0, _, _, _, _, _ => none
  | n + 1, v3, v4, v1, v6, v7 => spec_goodEnds_g0 N v3 v4 v1 (spec_goodEnds_j1 N (spec_goodEnds_l0 N n v3 v4 v1) v3 v4 v1) (spec_goodEnds_j2 N (spec_goodEnds_l0 N n v3 v4 v1) v3 v4 v1) (spec_goodEnds_l0 N n v3 v4 v1) v6 v7
def spec_goodEnds_g (N : Nat) (v1 : (List Int)) (v2 : Int) (v3 : Int) (v4 : Bool) (c0 : Int → Bool → (List Int) → Int → Int → Option (Int × Bool)) : Option (Int × Bool) :=
  ((c0 v3 v4 v1 v2 0))
def spec_goodEnds (N : Nat) (v1 : (List Int)) (v2 : Int) (v3 : Int) (v4 : Bool) : Option (Int × Bool) :=
  spec_goodEnds_g N v1 v2 v3 v4 (spec_goodEnds_l0 N N)
set_option maxRecDepth 100000
noncomputable def spec_goodEnds_e1 (N : Nat) (m0 : Nat) (v3 : Int) (v4 : Bool) (v1 : (List Int)) (v6 : Int) (v8 : Int) (v7 : Int) : Option (HR [(.int .i64), .bool]) :=
  gate N (evC (spec_goodEnds_E N) (codeAt (bodyOf Try.f141) [1, 0, 1, 0, 0, 1, 1, 0, 0, 1, 0, 1]) ⟨[(1, .pv (.int .i64) v6), (2, .pv (.int .i64) v3), (3, .pv .bool v4), (11, .pv (.int .i64) v8), (12, .pv (.list (.int .i64)) v1), (13, .pv (.int .i64) (v1.length : Int)), (14, .pv (.int .i64) v7), (38, .pv .bool true)], [], []⟩ (kSeq (advOf (spec_goodEnds_E N) (codeAt (bodyOf Try.f141) [1, 0, 1, 0, 0, 1, 1, 0, 0, 1, 1])) (evC (spec_goodEnds_E N) (codeAt (bodyOf Try.f141) [1, 0, 1, 0, 0, 1, 1, 0, 0, 1, 1])) (kBlock 1 (kSeq (advOf (spec_goodEnds_E N) (codeAt (bodyOf Try.f141) [1, 0, 1, 0, 0, 1, 1, 1])) (evC (spec_goodEnds_E N) (codeAt (bodyOf Try.f141) [1, 0, 1, 0, 0, 1, 1, 1])) (kSeq (advOf (spec_goodEnds_E N) (codeAt (bodyOf Try.f141) [1, 0, 1, 0, 0])) (fun st K => loopN (advOf (spec_goodEnds_E N) (codeAt (bodyOf Try.f141) [1, 0, 1, 0, 0])) (evC (spec_goodEnds_E N) (codeAt (bodyOf Try.f141) [1, 0, 1, 0, 0])) m0 st K) (kBlock 0 (kSeq (advOf (spec_goodEnds_E N) (codeAt (bodyOf Try.f141) [1, 1])) (evC (spec_goodEnds_E N) (codeAt (bodyOf Try.f141) [1, 1])) (kEnd (spec_goodEnds_E N) [] Try.f141.results.toList [(.int .i64), .bool]))))))))
noncomputable def spec_goodEnds_e2 (N : Nat) (m0 : Nat) (v3 : Int) (v4 : Bool) (v1 : (List Int)) (v8 : Int) (v7 : Int) : Option (HR [(.int .i64), .bool]) :=
  gate N (evC (spec_goodEnds_E N) (codeAt (bodyOf Try.f141) [1, 0, 1, 0, 0, 1, 1, 0, 0, 1, 1]) ⟨[(2, .pv (.int .i64) v3), (3, .pv .bool v4), (11, .pv (.int .i64) v8), (12, .pv (.list (.int .i64)) v1), (13, .pv (.int .i64) (v1.length : Int)), (14, .pv (.int .i64) v7)], [], []⟩ (kBlock 1 (kSeq (advOf (spec_goodEnds_E N) (codeAt (bodyOf Try.f141) [1, 0, 1, 0, 0, 1, 1, 1])) (evC (spec_goodEnds_E N) (codeAt (bodyOf Try.f141) [1, 0, 1, 0, 0, 1, 1, 1])) (kSeq (advOf (spec_goodEnds_E N) (codeAt (bodyOf Try.f141) [1, 0, 1, 0, 0])) (fun st K => loopN (advOf (spec_goodEnds_E N) (codeAt (bodyOf Try.f141) [1, 0, 1, 0, 0])) (evC (spec_goodEnds_E N) (codeAt (bodyOf Try.f141) [1, 0, 1, 0, 0])) m0 st K) (kBlock 0 (kSeq (advOf (spec_goodEnds_E N) (codeAt (bodyOf Try.f141) [1, 1])) (evC (spec_goodEnds_E N) (codeAt (bodyOf Try.f141) [1, 1])) (kEnd (spec_goodEnds_E N) [] Try.f141.results.toList [(.int .i64), .bool])))))))
noncomputable def spec_goodEnds_e0 (N : Nat) (n : Nat) (v3 : Int) (v4 : Bool) (v1 : (List Int)) (v6 : Int) (v7 : Int) : Option (HR [(.int .i64), .bool]) :=
  loopN (advOf (spec_goodEnds_E N) (codeAt (bodyOf Try.f141) [1, 0, 1, 0, 0])) (evC (spec_goodEnds_E N) (codeAt (bodyOf Try.f141) [1, 0, 1, 0, 0])) n ⟨[(1, .pv (.int .i64) v6), (2, .pv (.int .i64) v3), (3, .pv .bool v4), (12, .pv (.list (.int .i64)) v1), (13, .pv (.int .i64) (v1.length : Int)), (14, .pv (.int .i64) v7)], [], []⟩ (kBlock 0 (kSeq (advOf (spec_goodEnds_E N) (codeAt (bodyOf Try.f141) [1, 1])) (evC (spec_goodEnds_E N) (codeAt (bodyOf Try.f141) [1, 1])) (kEnd (spec_goodEnds_E N) [] Try.f141.results.toList [(.int .i64), .bool])))
theorem spec_goodEnds_t1 (N : Nat) (m0 : Nat) (v3 : Int) (v4 : Bool) (v1 : (List Int)) (v6 : Int) (v8 : Int) (v7 : Int) : spec_goodEnds_e1 N m0 v3 v4 v1 v6 v8 v7 = spec_goodEnds_j1 N (spec_goodEnds_e0 N m0 v3 v4 v1) v3 v4 v1 v6 v8 v7 := by
  exact (congrArg (gate N) (show evC (spec_goodEnds_E N) (codeAt (bodyOf Try.f141) [1, 0, 1, 0, 0, 1, 1, 0, 0, 1, 0, 1]) ⟨[(1, .pv (.int .i64) v6), (2, .pv (.int .i64) v3), (3, .pv .bool v4), (11, .pv (.int .i64) v8), (12, .pv (.list (.int .i64)) v1), (13, .pv (.int .i64) (v1.length : Int)), (14, .pv (.int .i64) v7), (38, .pv .bool true)], [], []⟩ (kSeq (advOf (spec_goodEnds_E N) (codeAt (bodyOf Try.f141) [1, 0, 1, 0, 0, 1, 1, 0, 0, 1, 1])) (evC (spec_goodEnds_E N) (codeAt (bodyOf Try.f141) [1, 0, 1, 0, 0, 1, 1, 0, 0, 1, 1])) (kBlock 1 (kSeq (advOf (spec_goodEnds_E N) (codeAt (bodyOf Try.f141) [1, 0, 1, 0, 0, 1, 1, 1])) (evC (spec_goodEnds_E N) (codeAt (bodyOf Try.f141) [1, 0, 1, 0, 0, 1, 1, 1])) (kSeq (advOf (spec_goodEnds_E N) (codeAt (bodyOf Try.f141) [1, 0, 1, 0, 0])) (fun st K => loopN (advOf (spec_goodEnds_E N) (codeAt (bodyOf Try.f141) [1, 0, 1, 0, 0])) (evC (spec_goodEnds_E N) (codeAt (bodyOf Try.f141) [1, 0, 1, 0, 0])) m0 st K) (kBlock 0 (kSeq (advOf (spec_goodEnds_E N) (codeAt (bodyOf Try.f141) [1, 1])) (evC (spec_goodEnds_E N) (codeAt (bodyOf Try.f141) [1, 1])) (kEnd (spec_goodEnds_E N) [] Try.f141.results.toList [(.int .i64), .bool]))))))) = spec_goodEnds_g1 N v3 v4 v1 v6 v8 v7 (spec_goodEnds_e0 N m0 v3 v4 v1) from by kernel_rfl)).trans (by rfl)
theorem spec_goodEnds_t2 (N : Nat) (m0 : Nat) (v3 : Int) (v4 : Bool) (v1 : (List Int)) (v8 : Int) (v7 : Int) : spec_goodEnds_e2 N m0 v3 v4 v1 v8 v7 = spec_goodEnds_j2 N (spec_goodEnds_e0 N m0 v3 v4 v1) v3 v4 v1 v8 v7 := by
  exact (congrArg (gate N) (show evC (spec_goodEnds_E N) (codeAt (bodyOf Try.f141) [1, 0, 1, 0, 0, 1, 1, 0, 0, 1, 1]) ⟨[(2, .pv (.int .i64) v3), (3, .pv .bool v4), (11, .pv (.int .i64) v8), (12, .pv (.list (.int .i64)) v1), (13, .pv (.int .i64) (v1.length : Int)), (14, .pv (.int .i64) v7)], [], []⟩ (kBlock 1 (kSeq (advOf (spec_goodEnds_E N) (codeAt (bodyOf Try.f141) [1, 0, 1, 0, 0, 1, 1, 1])) (evC (spec_goodEnds_E N) (codeAt (bodyOf Try.f141) [1, 0, 1, 0, 0, 1, 1, 1])) (kSeq (advOf (spec_goodEnds_E N) (codeAt (bodyOf Try.f141) [1, 0, 1, 0, 0])) (fun st K => loopN (advOf (spec_goodEnds_E N) (codeAt (bodyOf Try.f141) [1, 0, 1, 0, 0])) (evC (spec_goodEnds_E N) (codeAt (bodyOf Try.f141) [1, 0, 1, 0, 0])) m0 st K) (kBlock 0 (kSeq (advOf (spec_goodEnds_E N) (codeAt (bodyOf Try.f141) [1, 1])) (evC (spec_goodEnds_E N) (codeAt (bodyOf Try.f141) [1, 1])) (kEnd (spec_goodEnds_E N) [] Try.f141.results.toList [(.int .i64), .bool])))))) = spec_goodEnds_g2 N v3 v4 v1 v8 v7 (spec_goodEnds_e0 N m0 v3 v4 v1) from by kernel_rfl)).trans (by rfl)
theorem spec_goodEnds_t0 (N : Nat) : ∀ (n : Nat) (v3 : Int) (v4 : Bool) (v1 : (List Int)) (v6 : Int) (v7 : Int), spec_goodEnds_e0 N n v3 v4 v1 v6 v7 = spec_goodEnds_l0 N n v3 v4 v1 v6 v7
  | 0, _, _, _, _, _ => rfl
  | n + 1, v3, v4, v1, v6, v7 => by
    have h1 : (spec_goodEnds_e1 N n v3 v4 v1) = (spec_goodEnds_j1 N (spec_goodEnds_e0 N n v3 v4 v1) v3 v4 v1) := by funext v6 v8 v7; exact spec_goodEnds_t1 N n v3 v4 v1 v6 v8 v7
    have h2 : (spec_goodEnds_e2 N n v3 v4 v1) = (spec_goodEnds_j2 N (spec_goodEnds_e0 N n v3 v4 v1) v3 v4 v1) := by funext v8 v7; exact spec_goodEnds_t2 N n v3 v4 v1 v8 v7
    have h : spec_goodEnds_e0 N n v3 v4 v1 = spec_goodEnds_l0 N n v3 v4 v1 := by funext v6 v7; exact spec_goodEnds_t0 N n v3 v4 v1 v6 v7
    exact (show spec_goodEnds_e0 N (n + 1) v3 v4 v1 v6 v7 = spec_goodEnds_g0 N v3 v4 v1 (spec_goodEnds_e1 N n v3 v4 v1) (spec_goodEnds_e2 N n v3 v4 v1) (spec_goodEnds_e0 N n v3 v4 v1) v6 v7 from by kernel_rfl).trans (by rw [h1, h2, h]; rfl)
theorem spec_goodEnds_t (N : Nat) (v1 : (List Int)) (v2 : Int) (v3 : Int) (v4 : Bool) : evF (spec_goodEnds_E N) [] Try.f141 [.k (.list (.int .i64)), .k (.int .i64), .k (.int .i64), .k .bool] [(.int .i64), .bool] (v1, v2, v3, v4, ()) = spec_goodEnds N v1 v2 v3 v4 := by
  have h0 : (spec_goodEnds_e0 N N) = (spec_goodEnds_l0 N N) := by funext v3 v4 v1 v6 v7; exact spec_goodEnds_t0 N N v3 v4 v1 v6 v7
  exact (show evF (spec_goodEnds_E N) [] Try.f141 [.k (.list (.int .i64)), .k (.int .i64), .k (.int .i64), .k .bool] [(.int .i64), .bool] (v1, v2, v3, v4, ()) = spec_goodEnds_g N v1 v2 v3 v4 (spec_goodEnds_e0 N N) from by kernel_rfl).trans (by rw [h0]; rfl)
noncomputable def spec_goodEnds_con (N : Nat) : Con := ⟨141, [.k (.list (.int .i64)), .k (.int .i64), .k (.int .i64), .k .bool], [(.int .i64), .bool], fun x => spec_goodEnds N x.1 x.2.1 x.2.2.1 x.2.2.2.1⟩
theorem spec_goodEnds_s (N : Nat) : (spec_goodEnds_con N).Sound Try.prog :=
  Con.sound_of (c := spec_goodEnds_con N) (E := (spec_goodEnds_E N)) (idle := []) Try.func141 (by kernel_rfl) (by kernel_rfl) ⟨allNil, allNil⟩ allNil (fun x y h => (spec_goodEnds_t N x.1 x.2.1 x.2.2.1 x.2.2.2.1).trans h)
/-- pub-orthodrome/spec.Good -/
def spec_Good_g1 (N : Nat) (self : Geo → Option (Bool)) (v1 : Geo) (v6 : Int) (r0 : Int → Option (Bool)) : Option (Bool) :=
  (r0 (IntKind.i64.wrap (v6 + 1)))
def spec_Good_j1 (N : Nat) (self : Geo → Option (Bool)) (r0 : Int → Option (Bool)) (v1 : Geo) (v6 : Int) : Option (Bool) :=
  gate N (spec_Good_g1 N self v1 v6 r0)
def spec_Good_g0 (N : Nat) (self : Geo → Option (Bool)) (v1 : Geo) (c1 : Int → Option (Bool)) (r0 : Int → Option (Bool)) (v6 : Int) : Option (Bool) :=
  (bif (decide ((v6 : Int) < (v1.kids.length : Int))) then ((nth v1.kids v6).bind fun v7 => ((self (Geo.mk v7.kind v7.layout v7.srid v7.flat v7.ends v7.endss v7.kids)).bind fun v8 => bif (!v8) then (some false) else (bif (v1.layout != 0) then ((spec_LayoutOf N N (Geo.mk v7.kind v7.layout v7.srid v7.flat v7.ends v7.endss v7.kids)).bind fun v9 => (bif (v9 != v1.layout) then (some false) else (c1 v6))) else (c1 v6)))) else (bif (decide ((v1.layout : Int) ≥ 0)) then (some ((IntKind.i64.wrap ((IntKind.i64.wrap ((v1.flat.length : Int) + (v1.ends.length : Int))) + (v1.endss.length : Int))) == 0)) else (some false)))
def spec_Good_l0 (N : Nat) (self : Geo → Option (Bool)) : Nat → Geo → Int → Option (Bool)
  | 0, _, _ => none
  | n + 1, v1, v6 => spec_Good_g0 N self v1 (spec_Good_j1 N self (spec_Good_l0 N self n v1) v1) (spec_Good_l0 N self n v1) v6
def spec_Good_g2 (N : Nat) (self : Geo → Option (Bool)) (v2 : Int) (v1 : Geo) : Option (Bool) :=
  (some false)
def spec_Good_j2 (N : Nat) (self : Geo → Option (Bool)) (v2 : Int) (v1 : Geo) : Option (Bool) :=
  gate N (spec_Good_g2 N self v2 v1)
def spec_Good_g7 (N : Nat) (self : Geo → Option (Bool)) (v2 : Int) (v1 : Geo) (v19 : (Int × Bool)) (v17 : Int) (r6 : Int → Bool → Int → Option (Bool)) (v20 : Bool) : Option (Bool) :=
  (r6 v19.1 v20 (IntKind.i64.wrap (v17 + 1)))
def spec_Good_j7 (N : Nat) (self : Geo → Option (Bool)) (r6 : Int → Bool → Int → Option (Bool)) (v2 : Int) (v1 : Geo) (v19 : (Int × Bool)) (v17 : Int) (v20 : Bool) : Option (Bool) :=
  gate N (spec_Good_g7 N self v2 v1 v19 v17 r6 v20)
def spec_Good_g6 (N : Nat) (self : Geo → Option (Bool)) (v2 : Int) (v1 : Geo) (c7 : (Int × Bool) → Int → Bool → Option (Bool)) (r6 : Int → Bool → Int → Option (Bool)) (v15 : Int) (v16 : Bool) (v17 : Int) : Option (Bool) :=
  (bif (decide ((v17 : Int) < (v1.endss.length : Int))) then ((nth v1.endss v17).bind fun v18 => ((spec_goodEnds N v18 v15 v2 false).bind fun v19 => (bif v16 then (c7 v19 v17 v19.2) else (c7 v19 v17 false)))) else (bif v16 then (bif (v15 == (v1.flat.length : Int)) then (some ((v1.ends.length : Int) == 0)) else (some false)) else (some false)))
def spec_Good_l6 (N : Nat) (self : Geo → Option (Bool)) : Nat → Int → Geo → Int → Bool → Int → Option (Bool)
  | 0, _, _, _, _, _ => none
  | n + 1, v2, v1, v15, v16, v17 => spec_Good_g6 N self v2 v1 (spec_Good_j7 N self (spec_Good_l6 N self n v2 v1) v2 v1) (spec_Good_l6 N self n v2 v1) v15 v16 v17
def spec_Good_g5 (N : Nat) (self : Geo → Option (Bool)) (v2 : Int) (v1 : Geo) (c6 : Int → Geo → Int → Bool → Int → Option (Bool)) (v11 : Bool) : Option (Bool) :=
  bif v11 then ((spec_goodEnds N v1.ends 0 v2 (v1.kind == 4)).bind fun v12 => (bif v12.2 then (some (v12.1 == (v1.flat.length : Int))) else (some false))) else (bif (v1.kind == 6) then ((c6 v2 v1 0 true 0)) else (some false))
def spec_Good_j5 (N : Nat) (self : Geo → Option (Bool)) (v2 : Int) (v1 : Geo) (v11 : Bool) : Option (Bool) :=
  gate N (spec_Good_g5 N self v2 v1 (spec_Good_l6 N self N) v11)
def spec_Good_g4 (N : Nat) (self : Geo → Option (Bool)) (v2 : Int) (v1 : Geo) (c5 : Int → Geo → Bool → Option (Bool)) (v10 : Bool) : Option (Bool) :=
  bif v10 then (some ((v1.ends.length : Int) == 0)) else (bif (v1.kind == 3) then (c5 v2 v1 (v1.kind == 3)) else (bif (v1.kind == 4) then (c5 v2 v1 (v1.kind == 4)) else (c5 v2 v1 (v1.kind == 5))))
def spec_Good_j4 (N : Nat) (self : Geo → Option (Bool)) (v2 : Int) (v1 : Geo) (v10 : Bool) : Option (Bool) :=
  gate N (spec_Good_g4 N self v2 v1 (spec_Good_j5 N self) v10)
def spec_Good_g3 (N : Nat) (self : Geo → Option (Bool)) (v2 : Int) (v1 : Geo) (c4 : Int → Geo → Bool → Option (Bool)) : Option (Bool) :=
  (bif (v1.kind == 1) then (bif ((v1.ends.length : Int) == 0) then (some (decide (((v1.flat.length : Int) : Int) ≤ v2))) else (some false)) else (bif (v1.kind == 2) then (c4 v2 v1 (v1.kind == 2)) else (c4 v2 v1 (v1.kind == 8))))
def spec_Good_j3 (N : Nat) (self : Geo → Option (Bool)) (v2 : Int) (v1 : Geo) : Option (Bool) :=
  gate N (spec_Good_g3 N self v2 v1 (spec_Good_j4 N self))
def spec_Good_g (N : Nat) (self : Geo → Option (Bool)) (v1 : Geo) (c0 : Geo → Int → Option (Bool)) (c2 : Int → Geo → Option (Bool)) (c3 : Int → Geo → Option (Bool)) : Option (Bool) :=
  ((spec_Stride N v1.layout).bind fun v2 => (bif (v1.kind == 7) then ((c0 v1 0)) else (bif (v2 == 0) then (c2 v2 v1) else (if v2 = 0 then none else bif ((Int.tmod (v1.flat.length : Int) v2) != 0) then (c2 v2 v1) else (bif (decide (((v1.kids.length : Int) : Int) > 0)) then (c2 v2 v1) else (bif (decide (((v1.endss.length : Int) : Int) > 0)) then (gate N (bif (v1.kind != 6) then (some false) else (c3 v2 v1))) else (gate N (c3 v2 v1))))))))
def spec_Good (N : Nat) : Nat → Geo → Option (Bool)
  | 0, _ => none
  | d + 1, v1 => spec_Good_g N (spec_Good N d) v1 (spec_Good_l0 N (spec_Good N d) N) (spec_Good_j2 N (spec_Good N d)) (spec_Good_j3 N (spec_Good N d))
noncomputable def spec_Good_con' (N : Nat) (d : Nat) : Con := ⟨115, [.k .geo], [.bool], fun x => spec_Good N d x.1⟩
noncomputable def spec_Good_E (N : Nat) (d : Nat) : Env := ⟨Try.prog, N, [spec_Good_con' N d, spec_Stride_con N, spec_LayoutOf_con N, spec_goodEnds_con N], [(0, ⟨[], [], [0], [], none⟩), (1, ⟨[], [], [1], [1], none⟩), (2, ⟨[], [], [1, 3], [1], none⟩), (3, ⟨[], [], [1, 3, 18], [1], none⟩), (4, ⟨[], [], [1, 20, 21, 22], [1], none⟩), (5, ⟨[], [], [1, 20, 21, 22], [1], none⟩), (6, ⟨[], [], [1, 5, 20, 21, 22], [1, 5], none⟩), (7, ⟨[], [], [1, 20, 21, 22, 40], [1], none⟩), (8, ⟨[], [], [1, 20, 21, 22], [1], some N⟩), (9, ⟨[], [], [1], [1], none⟩), (10, ⟨[], [], [1, 3], [1], none⟩), (11, ⟨[], [], [1, 3, 85], [1], some N⟩), (12, ⟨[], [], [1, 3], [1], some N⟩), (13, ⟨[], [], [1, 3, 87], [1], none⟩), (14, ⟨[], [], [1, 3, 87, 88], [1], none⟩), (16, ⟨[], [], [1, 3, 87, 101], [1], none⟩), (17, ⟨[], [], [1, 3, 87, 101], [1], some N⟩), (19, ⟨[], [], [1, 3, 87, 108], [1], none⟩), (20, ⟨[], [], [1, 3, 87, 108], [1], none⟩), (21, ⟨[], [], [1, 3, 87, 108], [1], some N⟩), (22, ⟨[], [], [1, 6, 7], [1], none⟩), (24, ⟨[], [], [1, 3, 130], [1], none⟩), (25, ⟨[], [], [1, 3, 8, 9], [1], none⟩), (26, ⟨[], [], [1, 3, 8, 9, 133, 134, 135], [1], none⟩), (27, ⟨[], [], [1, 3, 8, 9, 133, 134, 135], [1], none⟩), (28, ⟨[], [], [1, 3, 8, 9, 11, 133, 134, 135], [1], none⟩), (29, ⟨[], [], [1, 3, 8, 9, 11, 133, 134, 135], [1], none⟩), (30, ⟨[], [], [1, 3, 8, 9, 12, 133, 134, 135], [1], none⟩), (31, ⟨[], [], [1, 3, 8, 9, 133, 134, 135], [1], some N⟩), (32, ⟨[], [], [1, 8, 9], [1], none⟩), (33, ⟨[], [], [], [], none⟩)], kdL [], []⟩
set_option maxRecDepth 100000
noncomputable def spec_Good_e1 (N : Nat) (d : Nat) (m0 : Nat) (v1 : Geo) (v6 : Int) : Option (HR [.bool]) :=
  gate N (evC (spec_Good_E N d) (codeAt (bodyOf Try.f115) [1, 1, 0, 1, 0, 0, 1, 0, 0, 1, 1, 1]) ⟨[(1, .ref 1 0), (20, .pv (.list .geo) v1.kids), (21, .pv (.int .i64) (v1.kids.length : Int)), (22, .pv (.int .i64) v6)], [(1, .box [.pv (.int .i64) v1.kind, .pv (.int .i64) v1.layout, .pv (.int .i64) v1.srid, .pv (.list .float) v1.flat, .pv (.list (.int .i64)) v1.ends, .pv (.list (.list (.int .i64))) v1.endss, .pv (.list .geo) v1.kids])], []⟩ (kSeq (advOf (spec_Good_E N d) (codeAt (bodyOf Try.f115) [1, 1, 0, 1, 0, 0, 1, 0, 0])) (fun st K => loopN (advOf (spec_Good_E N d) (codeAt (bodyOf Try.f115) [1, 1, 0, 1, 0, 0, 1, 0, 0])) (evC (spec_Good_E N d) (codeAt (bodyOf Try.f115) [1, 1, 0, 1, 0, 0, 1, 0, 0])) m0 st K) (kBlock 0 (kSeq (advOf (spec_Good_E N d) (codeAt (bodyOf Try.f115) [1, 1, 0, 1, 0, 1])) (evC (spec_Good_E N d) (codeAt (bodyOf Try.f115) [1, 1, 0, 1, 0, 1])) (kSeq (advOf (spec_Good_E N d) (codeAt (bodyOf Try.f115) [1, 1, 1])) (evC (spec_Good_E N d) (codeAt (bodyOf Try.f115) [1, 1, 1])) (kEnd (spec_Good_E N d) [] Try.f115.results.toList [.bool]))))))
noncomputable def spec_Good_e0 (N : Nat) (d : Nat) (n : Nat) (v1 : Geo) (v6 : Int) : Option (HR [.bool]) :=
  loopN (advOf (spec_Good_E N d) (codeAt (bodyOf Try.f115) [1, 1, 0, 1, 0, 0, 1, 0, 0])) (evC (spec_Good_E N d) (codeAt (bodyOf Try.f115) [1, 1, 0, 1, 0, 0, 1, 0, 0])) n ⟨[(1, .ref 1 0), (20, .pv (.list .geo) v1.kids), (21, .pv (.int .i64) (v1.kids.length : Int)), (22, .pv (.int .i64) v6)], [(1, .box [.pv (.int .i64) v1.kind, .pv (.int .i64) v1.layout, .pv (.int .i64) v1.srid, .pv (.list .float) v1.flat, .pv (.list (.int .i64)) v1.ends, .pv (.list (.list (.int .i64))) v1.endss, .pv (.list .geo) v1.kids])], []⟩ (kBlock 0 (kSeq (advOf (spec_Good_E N d) (codeAt (bodyOf Try.f115) [1, 1, 0, 1, 0, 1])) (evC (spec_Good_E N d) (codeAt (bodyOf Try.f115) [1, 1, 0, 1, 0, 1])) (kSeq (advOf (spec_Good_E N d) (codeAt (bodyOf Try.f115) [1, 1, 1])) (evC (spec_Good_E N d) (codeAt (bodyOf Try.f115) [1, 1, 1])) (kEnd (spec_Good_E N d) [] Try.f115.results.toList [.bool]))))
noncomputable def spec_Good_e2 (N : Nat) (d : Nat) (v2 : Int) (v1 : Geo) : Option (HR [.bool]) :=
  gate N (evC (spec_Good_E N d) (codeAt (bodyOf Try.f115) [1, 1, 1, 0, 1]) ⟨[(1, .ref 1 0), (3, .pv (.int .i64) v2), (85, .pv .bool true)], [(1, .box [.pv (.int .i64) v1.kind, .pv (.int .i64) v1.layout, .pv (.int .i64) v1.srid, .pv (.list .float) v1.flat, .pv (.list (.int .i64)) v1.ends, .pv (.list (.list (.int .i64))) v1.endss, .pv (.list .geo) v1.kids])], []⟩ (kSeq (advOf (spec_Good_E N d) (codeAt (bodyOf Try.f115) [1, 1, 1, 1])) (evC (spec_Good_E N d) (codeAt (bodyOf Try.f115) [1, 1, 1, 1])) (kEnd (spec_Good_E N d) [] Try.f115.results.toList [.bool])))
noncomputable def spec_Good_e7 (N : Nat) (d : Nat) (m6 : Nat) (v2 : Int) (v1 : Geo) (v19 : (Int × Bool)) (v17 : Int) (v20 : Bool) : Option (HR [.bool]) :=
  gate N (evC (spec_Good_E N d) (codeAt (bodyOf Try.f115) [1, 1, 1, 1, 0, 1, 0, 1, 1, 1, 1, 1, 1, 1, 0, 1, 0, 1, 0, 0, 1, 1, 1]) ⟨[(1, .ref 1 0), (3, .pv (.int .i64) v2), (8, .pv (.int .i64) v19.1), (9, .pv .bool v20), (133, .pv (.list (.list (.int .i64))) v1.endss), (134, .pv (.int .i64) (v1.endss.length : Int)), (135, .pv (.int .i64) v17)], [(1, .box [.pv (.int .i64) v1.kind, .pv (.int .i64) v1.layout, .pv (.int .i64) v1.srid, .pv (.list .float) v1.flat, .pv (.list (.int .i64)) v1.ends, .pv (.list (.list (.int .i64))) v1.endss, .pv (.list .geo) v1.kids])], []⟩ (kSeq (advOf (spec_Good_E N d) (codeAt (bodyOf Try.f115) [1, 1, 1, 1, 0, 1, 0, 1, 1, 1, 1, 1, 1, 1, 0, 1, 0, 1, 0, 0])) (fun st K => loopN (advOf (spec_Good_E N d) (codeAt (bodyOf Try.f115) [1, 1, 1, 1, 0, 1, 0, 1, 1, 1, 1, 1, 1, 1, 0, 1, 0, 1, 0, 0])) (evC (spec_Good_E N d) (codeAt (bodyOf Try.f115) [1, 1, 1, 1, 0, 1, 0, 1, 1, 1, 1, 1, 1, 1, 0, 1, 0, 1, 0, 0])) m6 st K) (kBlock 3 (kSeq (advOf (spec_Good_E N d) (codeAt (bodyOf Try.f115) [1, 1, 1, 1, 0, 1, 0, 1, 1, 1, 1, 1, 1, 1, 0, 1, 1])) (evC (spec_Good_E N d) (codeAt (bodyOf Try.f115) [1, 1, 1, 1, 0, 1, 0, 1, 1, 1, 1, 1, 1, 1, 0, 1, 1])) (kBlock 2 (kSeq (advOf (spec_Good_E N d) (codeAt (bodyOf Try.f115) [1, 1, 1, 1, 1])) (evC (spec_Good_E N d) (codeAt (bodyOf Try.f115) [1, 1, 1, 1, 1])) (kEnd (spec_Good_E N d) [] Try.f115.results.toList [.bool])))))))
noncomputable def spec_Good_e6 (N : Nat) (d : Nat) (n : Nat) (v2 : Int) (v1 : Geo) (v15 : Int) (v16 : Bool) (v17 : Int) : Option (HR [.bool]) :=
  loopN (advOf (spec_Good_E N d) (codeAt (bodyOf Try.f115) [1, 1, 1, 1, 0, 1, 0, 1, 1, 1, 1, 1, 1, 1, 0, 1, 0, 1, 0, 0])) (evC (spec_Good_E N d) (codeAt (bodyOf Try.f115) [1, 1, 1, 1, 0, 1, 0, 1, 1, 1, 1, 1, 1, 1, 0, 1, 0, 1, 0, 0])) n ⟨[(1, .ref 1 0), (3, .pv (.int .i64) v2), (8, .pv (.int .i64) v15), (9, .pv .bool v16), (133, .pv (.list (.list (.int .i64))) v1.endss), (134, .pv (.int .i64) (v1.endss.length : Int)), (135, .pv (.int .i64) v17)], [(1, .box [.pv (.int .i64) v1.kind, .pv (.int .i64) v1.layout, .pv (.int .i64) v1.srid, .pv (.list .float) v1.flat, .pv (.list (.int .i64)) v1.ends, .pv (.list (.list (.int .i64))) v1.endss, .pv (.list .geo) v1.kids])], []⟩ (kBlock 3 (kSeq (advOf (spec_Good_E N d) (codeAt (bodyOf Try.f115) [1, 1, 1, 1, 0, 1, 0, 1, 1, 1, 1, 1, 1, 1, 0, 1, 1])) (evC (spec_Good_E N d) (codeAt (bodyOf Try.f115) [1, 1, 1, 1, 0, 1, 0, 1, 1, 1, 1, 1, 1, 1, 0, 1, 1])) (kBlock 2 (kSeq (advOf (spec_Good_E N d) (codeAt (bodyOf Try.f115) [1, 1, 1, 1, 1])) (evC (spec_Good_E N d) (codeAt (bodyOf Try.f115) [1, 1, 1, 1, 1])) (kEnd (spec_Good_E N d) [] Try.f115.results.toList [.bool])))))
noncomputable def spec_Good_e5 (N : Nat) (d : Nat) (v2 : Int) (v1 : Geo) (v11 : Bool) : Option (HR [.bool]) :=
  gate N (evC (spec_Good_E N d) (codeAt (bodyOf Try.f115) [1, 1, 1, 1, 0, 1, 0, 1, 1, 1, 1, 1]) ⟨[(1, .ref 1 0), (3, .pv (.int .i64) v2), (87, .pv (.int .i64) v1.kind), (108, .pv .bool v11)], [(1, .box [.pv (.int .i64) v1.kind, .pv (.int .i64) v1.layout, .pv (.int .i64) v1.srid, .pv (.list .float) v1.flat, .pv (.list (.int .i64)) v1.ends, .pv (.list (.list (.int .i64))) v1.endss, .pv (.list .geo) v1.kids])], []⟩ (kBlock 2 (kSeq (advOf (spec_Good_E N d) (codeAt (bodyOf Try.f115) [1, 1, 1, 1, 1])) (evC (spec_Good_E N d) (codeAt (bodyOf Try.f115) [1, 1, 1, 1, 1])) (kEnd (spec_Good_E N d) [] Try.f115.results.toList [.bool]))))
noncomputable def spec_Good_e4 (N : Nat) (d : Nat) (v2 : Int) (v1 : Geo) (v10 : Bool) : Option (HR [.bool]) :=
  gate N (evC (spec_Good_E N d) (codeAt (bodyOf Try.f115) [1, 1, 1, 1, 0, 1, 0, 1, 1, 1]) ⟨[(1, .ref 1 0), (3, .pv (.int .i64) v2), (87, .pv (.int .i64) v1.kind), (101, .pv .bool v10)], [(1, .box [.pv (.int .i64) v1.kind, .pv (.int .i64) v1.layout, .pv (.int .i64) v1.srid, .pv (.list .float) v1.flat, .pv (.list (.int .i64)) v1.ends, .pv (.list (.list (.int .i64))) v1.endss, .pv (.list .geo) v1.kids])], []⟩ (kBlock 2 (kSeq (advOf (spec_Good_E N d) (codeAt (bodyOf Try.f115) [1, 1, 1, 1, 1])) (evC (spec_Good_E N d) (codeAt (bodyOf Try.f115) [1, 1, 1, 1, 1])) (kEnd (spec_Good_E N d) [] Try.f115.results.toList [.bool]))))
noncomputable def spec_Good_e3 (N : Nat) (d : Nat) (v2 : Int) (v1 : Geo) : Option (HR [.bool]) :=
  gate N (evC (spec_Good_E N d) (codeAt (bodyOf Try.f115) [1, 1, 1, 1]) ⟨[(1, .ref 1 0), (3, .pv (.int .i64) v2)], [(1, .box [.pv (.int .i64) v1.kind, .pv (.int .i64) v1.layout, .pv (.int .i64) v1.srid, .pv (.list .float) v1.flat, .pv (.list (.int .i64)) v1.ends, .pv (.list (.list (.int .i64))) v1.endss, .pv (.list .geo) v1.kids])], []⟩ (kEnd (spec_Good_E N d) [] Try.f115.results.toList [.bool]))
theorem spec_Good_t1 (N : Nat) (d : Nat) (m0 : Nat) (v1 : Geo) (v6 : Int) : spec_Good_e1 N d m0 v1 v6 = spec_Good_j1 N (spec_Good N d) (spec_Good_e0 N d m0 v1) v1 v6 := by
  exact (congrArg (gate N) (show evC (spec_Good_E N d) (codeAt (bodyOf Try.f115) [1, 1, 0, 1, 0, 0, 1, 0, 0, 1, 1, 1]) ⟨[(1, .ref 1 0), (20, .pv (.list .geo) v1.kids), (21, .pv (.int .i64) (v1.kids.length : Int)), (22, .pv (.int .i64) v6)], [(1, .box [.pv (.int .i64) v1.kind, .pv (.int .i64) v1.layout, .pv (.int .i64) v1.srid, .pv (.list .float) v1.flat, .pv (.list (.int .i64)) v1.ends, .pv (.list (.list (.int .i64))) v1.endss, .pv (.list .geo) v1.kids])], []⟩ (kSeq (advOf (spec_Good_E N d) (codeAt (bodyOf Try.f115) [1, 1, 0, 1, 0, 0, 1, 0, 0])) (fun st K => loopN (advOf (spec_Good_E N d) (codeAt (bodyOf Try.f115) [1, 1, 0, 1, 0, 0, 1, 0, 0])) (evC (spec_Good_E N d) (codeAt (bodyOf Try.f115) [1, 1, 0, 1, 0, 0, 1, 0, 0])) m0 st K) (kBlock 0 (kSeq (advOf (spec_Good_E N d) (codeAt (bodyOf Try.f115) [1, 1, 0, 1, 0, 1])) (evC (spec_Good_E N d) (codeAt (bodyOf Try.f115) [1, 1, 0, 1, 0, 1])) (kSeq (advOf (spec_Good_E N d) (codeAt (bodyOf Try.f115) [1, 1, 1])) (evC (spec_Good_E N d) (codeAt (bodyOf Try.f115) [1, 1, 1])) (kEnd (spec_Good_E N d) [] Try.f115.results.toList [.bool]))))) = spec_Good_g1 N (spec_Good N d) v1 v6 (spec_Good_e0 N d m0 v1) from by kernel_rfl)).trans (by rfl)
theorem spec_Good_t0 (N : Nat) (d : Nat) : ∀ (n : Nat) (v1 : Geo) (v6 : Int), spec_Good_e0 N d n v1 v6 = spec_Good_l0 N (spec_Good N d) n v1 v6
  | 0, _, _ => rfl
  | n + 1, v1, v6 => by
    have h1 : (spec_Good_e1 N d n v1) = (spec_Good_j1 N (spec_Good N d) (spec_Good_e0 N d n v1) v1) := by funext v6; exact spec_Good_t1 N d n v1 v6
    have h : spec_Good_e0 N d n v1 = spec_Good_l0 N (spec_Good N d) n v1 := by funext v6; exact spec_Good_t0 N d n v1 v6
    exact (show spec_Good_e0 N d (n + 1) v1 v6 = spec_Good_g0 N (spec_Good N d) v1 (spec_Good_e1 N d n v1) (spec_Good_e0 N d n v1) v6 from by kernel_rfl).trans (by rw [h1, h]; rfl)
theorem spec_Good_t2 (N : Nat) (d : Nat) (v2 : Int) (v1 : Geo) : spec_Good_e2 N d v2 v1 = spec_Good_j2 N (spec_Good N d) v2 v1 := by
  exact (congrArg (gate N) (show evC (spec_Good_E N d) (codeAt (bodyOf Try.f115) [1, 1, 1, 0, 1]) ⟨[(1, .ref 1 0), (3, .pv (.int .i64) v2), (85, .pv .bool true)], [(1, .box [.pv (.int .i64) v1.kind, .pv (.int .i64) v1.layout, .pv (.int .i64) v1.srid, .pv (.list .float) v1.flat, .pv (.list (.int .i64)) v1.ends, .pv (.list (.list (.int .i64))) v1.endss, .pv (.list .geo) v1.kids])], []⟩ (kSeq (advOf (spec_Good_E N d) (codeAt (bodyOf Try.f115) [1, 1, 1, 1])) (evC (spec_Good_E N d) (codeAt (bodyOf Try.f115) [1, 1, 1, 1])) (kEnd (spec_Good_E N d) [] Try.f115.results.toList [.bool])) = spec_Good_g2 N (spec_Good N d) v2 v1 from by kernel_rfl)).trans (by rfl)
theorem spec_Good_t7 (N : Nat) (d : Nat) (m6 : Nat) (v2 : Int) (v1 : Geo) (v19 : (Int × Bool)) (v17 : Int) (v20 : Bool) : spec_Good_e7 N d m6 v2 v1 v19 v17 v20 = spec_Good_j7 N (spec_Good N d) (spec_Good_e6 N d m6 v2 v1) v2 v1 v19 v17 v20 := by
  exact (congrArg (gate N) (show evC (spec_Good_E N d) (codeAt (bodyOf Try.f115) [1, 1, 1, 1, 0, 1, 0, 1, 1, 1, 1, 1, 1, 1, 0, 1, 0, 1, 0, 0, 1, 1, 1]) ⟨[(1, .ref 1 0), (3, .pv (.int .i64) v2), (8, .pv (.int .i64) v19.1), (9, .pv .bool v20), (133, .pv (.list (.list (.int .i64))) v1.endss), (134, .pv (.int .i64) (v1.endss.length : Int)), (135, .pv (.int .i64) v17)], [(1, .box [.pv (.int .i64) v1.kind, .pv (.int .i64) v1.layout, .pv (.int .i64) v1.srid, .pv (.list .float) v1.flat, .pv (.list (.int .i64)) v1.ends, .pv (.list (.list (.int .i64))) v1.endss, .pv (.list .geo) v1.kids])], []⟩ (kSeq (advOf (spec_Good_E N d) (codeAt (bodyOf Try.f115) [1, 1, 1, 1, 0, 1, 0, 1, 1, 1, 1, 1, 1, 1, 0, 1, 0, 1, 0, 0])) (fun st K => loopN (advOf (spec_Good_E N d) (codeAt (bodyOf Try.f115) [1, 1, 1, 1, 0, 1, 0, 1, 1, 1, 1, 1, 1, 1, 0, 1, 0, 1, 0, 0])) (evC (spec_Good_E N d) (codeAt (bodyOf Try.f115) [1, 1, 1, 1, 0, 1, 0, 1, 1, 1, 1, 1, 1, 1, 0, 1, 0, 1, 0, 0])) m6 st K) (kBlock 3 (kSeq (advOf (spec_Good_E N d) (codeAt (bodyOf Try.f115) [1, 1, 1, 1, 0, 1, 0, 1, 1, 1, 1, 1, 1, 1, 0, 1, 1])) (evC (spec_Good_E N d) (codeAt (bodyOf Try.f115) [1, 1, 1, 1, 0, 1, 0, 1, 1, 1, 1, 1, 1, 1, 0, 1, 1])) (kBlock 2 (kSeq (advOf (spec_Good_E N d) (codeAt (bodyOf Try.f115) [1, 1, 1, 1, 1])) (evC (spec_Good_E N d) (codeAt (bodyOf Try.f115) [1, 1, 1, 1, 1])) (kEnd (spec_Good_E N d) [] Try.f115.results.toList [.bool])))))) = spec_Good_g7 N (spec_Good N d) v2 v1 v19 v17 (spec_Good_e6 N d m6 v2 v1) v20 from by kernel_rfl)).trans (by rfl)
theorem spec_Good_t6 (N : Nat) (d : Nat) : ∀ (n : Nat) (v2 : Int) (v1 : Geo) (v15 : Int) (v16 : Bool) (v17 : Int), spec_Good_e6 N d n v2 v1 v15 v16 v17 = spec_Good_l6 N (spec_Good N d) n v2 v1 v15 v16 v17
  | 0, _, _, _, _, _ => rfl
  | n + 1, v2, v1, v15, v16, v17 => by
    have h7 : (spec_Good_e7 N d n v2 v1) = (spec_Good_j7 N (spec_Good N d) (spec_Good_e6 N d n v2 v1) v2 v1) := by funext v19 v17 v20; exact spec_Good_t7 N d n v2 v1 v19 v17 v20
    have h : spec_Good_e6 N d n v2 v1 = spec_Good_l6 N (spec_Good N d) n v2 v1 := by funext v15 v16 v17; exact spec_Good_t6 N d n v2 v1 v15 v16 v17
    exact (show spec_Good_e6 N d (n + 1) v2 v1 v15 v16 v17 = spec_Good_g6 N (spec_Good N d) v2 v1 (spec_Good_e7 N d n v2 v1) (spec_Good_e6 N d n v2 v1) v15 v16 v17 from by kernel_rfl).trans (by rw [h7, h]; rfl)
theorem spec_Good_t5 (N : Nat) (d : Nat) (v2 : Int) (v1 : Geo) (v11 : Bool) : spec_Good_e5 N d v2 v1 v11 = spec_Good_j5 N (spec_Good N d) v2 v1 v11 := by
  have h6 : (spec_Good_e6 N d N) = (spec_Good_l6 N (spec_Good N d) N) := by funext v2 v1 v15 v16 v17; exact spec_Good_t6 N d N v2 v1 v15 v16 v17
  exact (congrArg (gate N) (show evC (spec_Good_E N d) (codeAt (bodyOf Try.f115) [1, 1, 1, 1, 0, 1, 0, 1, 1, 1, 1, 1]) ⟨[(1, .ref 1 0), (3, .pv (.int .i64) v2), (87, .pv (.int .i64) v1.kind), (108, .pv .bool v11)], [(1, .box [.pv (.int .i64) v1.kind, .pv (.int .i64) v1.layout, .pv (.int .i64) v1.srid, .pv (.list .float) v1.flat, .pv (.list (.int .i64)) v1.ends, .pv (.list (.list (.int .i64))) v1.endss, .pv (.list .geo) v1.kids])], []⟩ (kBlock 2 (kSeq (advOf (spec_Good_E N d) (codeAt (bodyOf Try.f115) [1, 1, 1, 1, 1])) (evC (spec_Good_E N d) (codeAt (bodyOf Try.f115) [1, 1, 1, 1, 1])) (kEnd (spec_Good_E N d) [] Try.f115.results.toList [.bool]))) = spec_Good_g5 N (spec_Good N d) v2 v1 (spec_Good_e6 N d N) v11 from by kernel_rfl)).trans (by rw [h6]; rfl)
theorem spec_Good_t4 (N : Nat) (d : Nat) (v2 : Int) (v1 : Geo) (v10 : Bool) : spec_Good_e4 N d v2 v1 v10 = spec_Good_j4 N (spec_Good N d) v2 v1 v10 := by
  have h5 : (spec_Good_e5 N d) = (spec_Good_j5 N (spec_Good N d)) := by funext v2 v1 v11; exact spec_Good_t5 N d v2 v1 v11
  exact (congrArg (gate N) (show evC (spec_Good_E N d) (codeAt (bodyOf Try.f115) [1, 1, 1, 1, 0, 1, 0, 1, 1, 1]) ⟨[(1, .ref 1 0), (3, .pv (.int .i64) v2), (87, .pv (.int .i64) v1.kind), (101, .pv .bool v10)], [(1, .box [.pv (.int .i64) v1.kind, .pv (.int .i64) v1.layout, .pv (.int .i64) v1.srid, .pv (.list .float) v1.flat, .pv (.list (.int .i64)) v1.ends, .pv (.list (.list (.int .i64))) v1.endss, .pv (.list .geo) v1.kids])], []⟩ (kBlock 2 (kSeq (advOf (spec_Good_E N d) (codeAt (bodyOf Try.f115) [1, 1, 1, 1, 1])) (evC (spec_Good_E N d) (codeAt (bodyOf Try.f115) [1, 1, 1, 1, 1])) (kEnd (spec_Good_E N d) [] Try.f115.results.toList [.bool]))) = spec_Good_g4 N (spec_Good N d) v2 v1 (spec_Good_e5 N d) v10 from by kernel_rfl)).trans (by rw [h5]; rfl)
theorem spec_Good_t3 (N : Nat) (d : Nat) (v2 : Int) (v1 : Geo) : spec_Good_e3 N d v2 v1 = spec_Good_j3 N (spec_Good N d) v2 v1 := by
  have h4 : (spec_Good_e4 N d) = (spec_Good_j4 N (spec_Good N d)) := by funext v2 v1 v10; exact spec_Good_t4 N d v2 v1 v10
  exact (congrArg (gate N) (show evC (spec_Good_E N d) (codeAt (bodyOf Try.f115) [1, 1, 1, 1]) ⟨[(1, .ref 1 0), (3, .pv (.int .i64) v2)], [(1, .box [.pv (.int .i64) v1.kind, .pv (.int .i64) v1.layout, .pv (.int .i64) v1.srid, .pv (.list .float) v1.flat, .pv (.list (.int .i64)) v1.ends, .pv (.list (.list (.int .i64))) v1.endss, .pv (.list .geo) v1.kids])], []⟩ (kEnd (spec_Good_E N d) [] Try.f115.results.toList [.bool]) = spec_Good_g3 N (spec_Good N d) v2 v1 (spec_Good_e4 N d) from by kernel_rfl)).trans (by rw [h4]; rfl)
theorem spec_Good_t (N : Nat) (d : Nat) (v1 : Geo) : evF (spec_Good_E N d) [] Try.f115 [.k .geo] [.bool] (v1, ()) = spec_Good N (d + 1) v1 := by
  have h0 : (spec_Good_e0 N d N) = (spec_Good_l0 N (spec_Good N d) N) := by funext v1 v6; exact spec_Good_t0 N d N v1 v6
  have h2 : (spec_Good_e2 N d) = (spec_Good_j2 N (spec_Good N d)) := by funext v2 v1; exact spec_Good_t2 N d v2 v1
  have h3 : (spec_Good_e3 N d) = (spec_Good_j3 N (spec_Good N d)) := by funext v2 v1; exact spec_Good_t3 N d v2 v1
  exact (show evF (spec_Good_E N d) [] Try.f115 [.k .geo] [.bool] (v1, ()) = spec_Good_g N (spec_Good N d) v1 (spec_Good_e0 N d N) (spec_Good_e2 N d) (spec_Good_e3 N d) from by kernel_rfl).trans (by rw [h0, h2, h3]; rfl)
theorem spec_Good_s' (N : Nat) : ∀ d, (spec_Good_con' N d).Sound Try.prog
  | 0 => fun _ _ _ _ _ _ _ h => by cases h
  | d + 1 => Con.sound_of (c := spec_Good_con' N (d + 1)) (E := (spec_Good_E N d)) (idle := []) Try.func115 (by kernel_rfl) (by kernel_rfl) ⟨(allCons (spec_Good_s' N d) (allCons (spec_Stride_s N) (allCons (spec_LayoutOf_s N) (allCons (spec_goodEnds_s N) allNil)))), allNil⟩ allNil (fun x y h => (spec_Good_t N d x.1).trans h)
noncomputable def spec_Good_con (N : Nat) : Con := spec_Good_con' N N
theorem spec_Good_s (N : Nat) : (spec_Good_con N).Sound Try.prog := spec_Good_s' N N
/-- pub-orthodrome/laws.gGood -/
noncomputable def laws_gGood_E (N : Nat) : Env := ⟨Try.prog, N, [laws_gSmall_con N, spec_Good_con N], [(0, ⟨[], [], [0], [], none⟩), (1, ⟨[], [], [0], [], none⟩), (2, ⟨[], [], [0, 7], [], none⟩), (3, ⟨[], [], [0], [], none⟩), (4, ⟨[], [], [8, 9, 10], [], none⟩), (5, ⟨[], [], [8, 9, 10], [], none⟩), (6, ⟨[], [], [4, 8, 9, 10], [4], none⟩), (7, ⟨[], [], [8, 9, 10, 16], [], none⟩), (8, ⟨[], [], [8, 9, 10], [], none⟩), (9, ⟨[], [], [], [], none⟩)], kdL [], []⟩
def laws_gGood_g0 (N : Nat) (v1 : (List Geo)) (r0 : Int → Option (Bool)) (v5 : Int) : Option (Bool) :=
  (bif (decide ((v5 : Int) < (v1.length : Int))) then ((nth v1 v5).bind fun v6 => ((spec_Good N N (Geo.mk v6.kind v6.layout v6.srid v6.flat v6.ends v6.endss v6.kids)).bind fun v7 => (bif (!v7) then (some false) else ((r0 (IntKind.i64.wrap (v5 + 1))))))) else (some true))
def laws_gGood_l0 (N : Nat) : Nat → (List Geo) → Int → Option (Bool)
  | 0, _, _ => none
  | n + 1, v1, v5 => laws_gGood_g0 N v1 (laws_gGood_l0 N n v1) v5
def laws_gGood_g (N : Nat) (v1 : (List Geo)) (c0 : (List Geo) → Int → Option (Bool)) : Option (Bool) :=
  ((laws_gSmall N v1).bind fun v2 => (bif (!v2) then (some false) else ((c0 v1 0))))
def laws_gGood (N : Nat) (v1 : (List Geo)) : Option (Bool) :=
  laws_gGood_g N v1 (laws_gGood_l0 N N)
set_option maxRecDepth 100000
noncomputable def laws_gGood_e0 (N : Nat) (n : Nat) (v1 : (List Geo)) (v5 : Int) : Option (HR [.bool]) :=
  loopN (advOf (laws_gGood_E N) (codeAt (bodyOf Try.f68) [1, 1, 0, 1, 0, 0])) (evC (laws_gGood_E N) (codeAt (bodyOf Try.f68) [1, 1, 0, 1, 0, 0])) n ⟨[(8, .pv (.list .geo) v1), (9, .pv (.int .i64) (v1.length : Int)), (10, .pv (.int .i64) v5)], [], []⟩ (kBlock 0 (kSeq (advOf (laws_gGood_E N) (codeAt (bodyOf Try.f68) [1, 1, 1])) (evC (laws_gGood_E N) (codeAt (bodyOf Try.f68) [1, 1, 1])) (kEnd (laws_gGood_E N) [] Try.f68.results.toList [.bool])))
theorem laws_gGood_t0 (N : Nat) : ∀ (n : Nat) (v1 : (List Geo)) (v5 : Int), laws_gGood_e0 N n v1 v5 = laws_gGood_l0 N n v1 v5
  | 0, _, _ => rfl
  | n + 1, v1, v5 => by
    have h : laws_gGood_e0 N n v1 = laws_gGood_l0 N n v1 := by funext v5; exact laws_gGood_t0 N n v1 v5
    exact (show laws_gGood_e0 N (n + 1) v1 v5 = laws_gGood_g0 N v1 (laws_gGood_e0 N n v1) v5 from by kernel_rfl).trans (by rw [h]; rfl)
theorem laws_gGood_t (N : Nat) (v1 : (List Geo)) : evF (laws_gGood_E N) [] Try.f68 [.k (.list .geo)] [.bool] (v1, ()) = laws_gGood N v1 := by
  have h0 : (laws_gGood_e0 N N) = (laws_gGood_l0 N N) := by funext v1 v5; exact laws_gGood_t0 N N v1 v5
  exact (show evF (laws_gGood_E N) [] Try.f68 [.k (.list .geo)] [.bool] (v1, ()) = laws_gGood_g N v1 (laws_gGood_e0 N N) from by kernel_rfl).trans (by rw [h0]; rfl)
noncomputable def laws_gGood_con (N : Nat) : Con := ⟨68, [.k (.list .geo)], [.bool], fun x => laws_gGood N x.1⟩
theorem laws_gGood_s (N : Nat) : (laws_gGood_con N).Sound Try.prog :=
  Con.sound_of (c := laws_gGood_con N) (E := (laws_gGood_E N)) (idle := []) Try.func68 (by kernel_rfl) (by kernel_rfl) ⟨(allCons (laws_gSmall_s N) (allCons (spec_Good_s N) allNil)), allNil⟩ allNil (fun x y h => (laws_gGood_t N x.1).trans h)
/-- pub-orthodrome/laws.fRowss -/
noncomputable def laws_fRowss_E (N : Nat) : Env := ⟨Try.prog, N, [laws_fStride_con N, laws_fLayout_con N, laws_gGood_con N], [(0, ⟨[], [], [0, 1, 2], [], none⟩), (1, ⟨[], [], [0, 1, 2, 6], [6], none⟩), (2, ⟨[], [], [0, 1, 2, 6, 11], [6], none⟩), (3, ⟨[], [], [0, 1, 2, 6], [6], none⟩), (4, ⟨[], [], [6, 8], [6, 8], none⟩)], kdL [(48, .geo)], []⟩
def laws_fRowss_g (N : Nat) (v1 : (List Nat)) (v2 : (List (List Int))) (v3 : Int) : Option (Geo × Bool) :=
  ((laws_fStride N v3).bind fun v4 => (bif (!v4) then (some ((Geo.mk 0 0 0 ([] : List Nat) ([] : List Int) ([] : List (List Int)) ([] : List Geo)), false)) else ((laws_fLayout N v3).bind fun v5 => ((laws_gGood N ([(Geo.mk 6 v5 0 v1 ([] : List Int) v2 ([] : List Geo))] : List Geo)).bind fun v6 => (some ((Geo.mk 6 v5 0 v1 ([] : List Int) v2 ([] : List Geo)), v6))))))
def laws_fRowss (N : Nat) (v1 : (List Nat)) (v2 : (List (List Int))) (v3 : Int) : Option (Geo × Bool) :=
  laws_fRowss_g N v1 v2 v3
set_option maxRecDepth 100000
theorem laws_fRowss_t (N : Nat) (v1 : (List Nat)) (v2 : (List (List Int))) (v3 : Int) : evF (laws_fRowss_E N) [] Try.f20 [.k (.list .float), .k (.list (.list (.int .i64))), .k (.int .i64)] [.geo, .bool] (v1, v2, v3, ()) = laws_fRowss N v1 v2 v3 := by
  exact (show evF (laws_fRowss_E N) [] Try.f20 [.k (.list .float), .k (.list (.list (.int .i64))), .k (.int .i64)] [.geo, .bool] (v1, v2, v3, ()) = laws_fRowss_g N v1 v2 v3 from by kernel_rfl).trans (by rfl)
noncomputable def laws_fRowss_con (N : Nat) : Con := ⟨20, [.k (.list .float), .k (.list (.list (.int .i64))), .k (.int .i64)], [.geo, .bool], fun x => laws_fRowss N x.1 x.2.1 x.2.2.1⟩
theorem laws_fRowss_s (N : Nat) : (laws_fRowss_con N).Sound Try.prog :=
  Con.sound_of (c := laws_fRowss_con N) (E := (laws_fRowss_E N)) (idle := []) Try.func20 (by kernel_rfl) (by kernel_rfl) ⟨(allCons (laws_fStride_s N) (allCons (laws_fLayout_s N) (allCons (laws_gGood_s N) allNil))), allNil⟩ allNil (fun x y h => (laws_fRowss_t N x.1 x.2.1 x.2.2.1).trans h)
/-- pub-orthodrome/laws.gHollow -/
noncomputable def laws_gHollow_E (N : Nat) : Env := ⟨Try.prog, N, [], [(0, ⟨[], [], [0], [], none⟩), (1, ⟨[], [], [1], [1], none⟩), (2, ⟨[], [], [6, 7, 8], [], none⟩), (3, ⟨[], [], [6, 7, 8], [], none⟩), (4, ⟨[], [], [4, 6, 7, 8], [], none⟩), (5, ⟨[], [], [6, 7, 8, 14], [], none⟩), (6, ⟨[], [], [6, 7, 8], [], none⟩), (7, ⟨[], [], [], [], none⟩)], kdL [], []⟩
def laws_gHollow_g0 (N : Nat) (v1 : Geo) (r0 : Int → Option (Bool)) (v3 : Int) : Option (Bool) :=
  (bif (decide ((v3 : Int) < (v1.endss.length : Int))) then ((nth v1.endss v3).bind fun v4 => (bif ((v4.length : Int) == 0) then (some true) else ((r0 (IntKind.i64.wrap (v3 + 1)))))) else (some false))
def laws_gHollow_l0 (N : Nat) : Nat → Geo → Int → Option (Bool)
  | 0, _, _ => none
  | n + 1, v1, v3 => laws_gHollow_g0 N v1 (laws_gHollow_l0 N n v1) v3
def laws_gHollow_g (N : Nat) (v1 : Geo) (c0 : Geo → Int → Option (Bool)) : Option (Bool) :=
  ((c0 v1 0))
def laws_gHollow (N : Nat) (v1 : Geo) : Option (Bool) :=
  laws_gHollow_g N v1 (laws_gHollow_l0 N N)
set_option maxRecDepth 100000
noncomputable def laws_gHollow_e0 (N : Nat) (n : Nat) (v1 : Geo) (v3 : Int) : Option (HR [.bool]) :=
  loopN (advOf (laws_gHollow_E N) (codeAt (bodyOf Try.f21) [1, 0, 1, 0, 0])) (evC (laws_gHollow_E N) (codeAt (bodyOf Try.f21) [1, 0, 1, 0, 0])) n ⟨[(6, .pv (.list (.list (.int .i64))) v1.endss), (7, .pv (.int .i64) (v1.endss.length : Int)), (8, .pv (.int .i64) v3)], [], []⟩ (kBlock 0 (kSeq (advOf (laws_gHollow_E N) (codeAt (bodyOf Try.f21) [1, 1])) (evC (laws_gHollow_E N) (codeAt (bodyOf Try.f21) [1, 1])) (kEnd (laws_gHollow_E N) [] Try.f21.results.toList [.bool])))
theorem laws_gHollow_t0 (N : Nat) : ∀ (n : Nat) (v1 : Geo) (v3 : Int), laws_gHollow_e0 N n v1 v3 = laws_gHollow_l0 N n v1 v3
  | 0, _, _ => rfl
  | n + 1, v1, v3 => by
    have h : laws_gHollow_e0 N n v1 = laws_gHollow_l0 N n v1 := by funext v3; exact laws_gHollow_t0 N n v1 v3
    exact (show laws_gHollow_e0 N (n + 1) v1 v3 = laws_gHollow_g0 N v1 (laws_gHollow_e0 N n v1) v3 from by kernel_rfl).trans (by rw [h]; rfl)
theorem laws_gHollow_t (N : Nat) (v1 : Geo) : evF (laws_gHollow_E N) [] Try.f21 [.k .geo] [.bool] (v1, ()) = laws_gHollow N v1 := by
  have h0 : (laws_gHollow_e0 N N) = (laws_gHollow_l0 N N) := by funext v1 v3; exact laws_gHollow_t0 N N v1 v3
  exact (show evF (laws_gHollow_E N) [] Try.f21 [.k .geo] [.bool] (v1, ()) = laws_gHollow_g N v1 (laws_gHollow_e0 N N) from by kernel_rfl).trans (by rw [h0]; rfl)
noncomputable def laws_gHollow_con (N : Nat) : Con := ⟨21, [.k .geo], [.bool], fun x => laws_gHollow N x.1⟩
theorem laws_gHollow_s (N : Nat) : (laws_gHollow_con N).Sound Try.prog :=
  Con.sound_of (c := laws_gHollow_con N) (E := (laws_gHollow_E N)) (idle := []) Try.func21 (by kernel_rfl) (by kernel_rfl) ⟨allNil, allNil⟩ allNil (fun x y h => (laws_gHollow_t N x.1).trans h)
/-- math.archTrunc -/
def math_archTrunc (N : Nat) (v1 : Nat) : Option Nat := fwhole .zero v1
noncomputable def math_archTrunc_con (N : Nat) : Con := ⟨116, [.k .float], [.float], fun x => math_archTrunc N x.1⟩
theorem math_archTrunc_s (N : Nat) : (math_archTrunc_con N).Sound Try.prog := whole_of (name := "math.archTrunc") Try.func116 (by kernel_rfl) (by kernel_rfl) (by kernel_rfl) (by kernel_rfl)
/-- math.Trunc -/
noncomputable def math_Trunc_E (N : Nat) : Env := ⟨Try.prog, N, [math_archTrunc_con N], [(0, ⟨[], [], [0], [], none⟩), (1, ⟨[], [], [0], [], none⟩), (2, ⟨[], [], [0], [], none⟩)], kdL [], []⟩
def math_Trunc_g (N : Nat) (v1 : Nat) : Option (Nat) :=
  ((math_archTrunc N v1).bind fun v2 => (some v2))
def math_Trunc (N : Nat) (v1 : Nat) : Option (Nat) :=
  math_Trunc_g N v1
set_option maxRecDepth 100000
theorem math_Trunc_t (N : Nat) (v1 : Nat) : evF (math_Trunc_E N) [] Try.f69 [.k .float] [.float] (v1, ()) = math_Trunc N v1 := by
  exact (show evF (math_Trunc_E N) [] Try.f69 [.k .float] [.float] (v1, ()) = math_Trunc_g N v1 from by kernel_rfl).trans (by rfl)
noncomputable def math_Trunc_con (N : Nat) : Con := ⟨69, [.k .float], [.float], fun x => math_Trunc N x.1⟩
theorem math_Trunc_s (N : Nat) : (math_Trunc_con N).Sound Try.prog :=
  Con.sound_of (c := math_Trunc_con N) (E := (math_Trunc_E N)) (idle := []) Try.func69 (by kernel_rfl) (by kernel_rfl) ⟨(allCons (math_archTrunc_s N) allNil), allNil⟩ allNil (fun x y h => (math_Trunc_t N x.1).trans h)
/-- pub-orthodrome/laws.gWhole -/
noncomputable def laws_gWhole_E (N : Nat) : Env := ⟨Try.prog, N, [math_Trunc_con N], [(0, ⟨[], [], [0], [], none⟩), (1, ⟨[], [], [0], [], none⟩)], kdL [], []⟩
def laws_gWhole_g (N : Nat) (v1 : Nat) : Option (Bool) :=
  (bif (fge v1 13920626448202203136) then (bif (fle v1 4697254411347427328) then ((math_Trunc N v1).bind fun v2 => (some (feq v1 v2))) else (some false)) else (some false))
def laws_gWhole (N : Nat) (v1 : Nat) : Option (Bool) :=
  laws_gWhole_g N v1
set_option maxRecDepth 100000
theorem laws_gWhole_t (N : Nat) (v1 : Nat) : evF (laws_gWhole_E N) [] Try.f23 [.k .float] [.bool] (v1, ()) = laws_gWhole N v1 := by
  exact (show evF (laws_gWhole_E N) [] Try.f23 [.k .float] [.bool] (v1, ()) = laws_gWhole_g N v1 from by kernel_rfl).trans (by rfl)
noncomputable def laws_gWhole_con (N : Nat) : Con := ⟨23, [.k .float], [.bool], fun x => laws_gWhole N x.1⟩
theorem laws_gWhole_s (N : Nat) : (laws_gWhole_con N).Sound Try.prog :=
  Con.sound_of (c := laws_gWhole_con N) (E := (laws_gWhole_E N)) (idle := []) Try.func23 (by kernel_rfl) (by kernel_rfl) ⟨(allCons (math_Trunc_s N) allNil), allNil⟩ allNil (fun x y h => (laws_gWhole_t N x.1).trans h)
/-- pub-orthodrome/laws.gEach -/
def laws_gEach_b_g1 (N : Nat) (self : Geo → Option (Bool)) (v1 : Geo) (r1 : Int → Option (Bool)) (v9 : Int) : Option (Bool) :=
  (bif (decide ((v9 : Int) < (v1.kids.length : Int))) then ((nth v1.kids v9).bind fun v10 => ((self (Geo.mk v10.kind v10.layout v10.srid v10.flat v10.ends v10.endss v10.kids)).bind fun v11 => (bif (!v11) then (some false) else ((r1 (IntKind.i64.wrap (v9 + 1))))))) else (some true))
def laws_gEach_b_l1 (N : Nat) (self : Geo → Option (Bool)) : Nat → Geo → Int → Option (Bool)
  | 0, _, _ => none
  | n + 1, v1, v9 => laws_gEach_b_g1 N self v1 (laws_gEach_b_l1 N self n v1) v9
def laws_gEach_b_g0 (N : Nat) (self : Geo → Option (Bool)) (v1 : Geo) (c1 : Geo → Int → Option (Bool)) (r0 : Int → Option (Bool)) (v4 : Int) : Option (Bool) :=
  (bif (decide ((v4 : Int) < (v1.flat.length : Int))) then ((nth v1.flat v4).bind fun v5 => ((laws_gWhole N v5).bind fun v6 => (bif (!v6) then (some false) else ((r0 (IntKind.i64.wrap (v4 + 1))))))) else ((c1 v1 0)))
def laws_gEach_b_l0 (N : Nat) (self : Geo → Option (Bool)) : Nat → Geo → Int → Option (Bool)
  | 0, _, _ => none
  | n + 1, v1, v4 => laws_gEach_b_g0 N self v1 (laws_gEach_b_l1 N self N) (laws_gEach_b_l0 N self n v1) v4
def laws_gEach_b_g (N : Nat) (self : Geo → Option (Bool)) (v1 : Geo) (c0 : Geo → Int → Option (Bool)) : Option (Bool) :=
  ((c0 v1 0))
def laws_gEach_b (N : Nat) : Nat → Geo → Option (Bool)
  | 0, _ => none
  | d + 1, v1 => laws_gEach_b_g N (laws_gEach_b N d) v1 (laws_gEach_b_l0 N (laws_gEach_b N d) N)
noncomputable def laws_gEach_b_con' (N : Nat) (d : Nat) : Con := ⟨22, [.k .geo, .fn 23], [.bool], fun x => laws_gEach_b N d x.1⟩
noncomputable def laws_gEach_b_E (N : Nat) (d : Nat) : Env := ⟨Try.prog, N, [laws_gEach_b_con' N d, laws_gWhole_con N], [(0, ⟨[], [], [0, 1], [], none⟩), (1, ⟨[], [], [1, 2], [2], none⟩), (2, ⟨[], [], [1, 2, 10, 11, 12], [2], none⟩), (3, ⟨[], [], [1, 2, 10, 11, 12], [2], none⟩), (4, ⟨[], [], [1, 2, 6, 10, 11, 12], [2], none⟩), (5, ⟨[], [], [1, 2, 10, 11, 12, 19], [2], none⟩), (6, ⟨[], [], [1, 2, 10, 11, 12], [2], none⟩), (7, ⟨[], [], [1, 2], [2], none⟩), (8, ⟨[], [], [1, 22, 23, 24], [], none⟩), (9, ⟨[], [], [1, 22, 23, 24], [], none⟩), (10, ⟨[], [], [1, 8, 22, 23, 24], [8], none⟩), (11, ⟨[], [], [1, 22, 23, 24, 31], [], none⟩), (12, ⟨[], [], [1, 22, 23, 24], [], none⟩), (13, ⟨[], [], [], [], none⟩)], kdL [], []⟩
set_option maxRecDepth 100000
noncomputable def laws_gEach_b_e1 (N : Nat) (d : Nat) (n : Nat) (v1 : Geo) (v9 : Int) : Option (HR [.bool]) :=
  loopN (advOf (laws_gEach_b_E N d) (codeAt (bodyOf Try.f22) [1, 1, 0, 1, 0, 0])) (evC (laws_gEach_b_E N d) (codeAt (bodyOf Try.f22) [1, 1, 0, 1, 0, 0])) n ⟨[(1, .func 23 []), (22, .pv (.list .geo) v1.kids), (23, .pv (.int .i64) (v1.kids.length : Int)), (24, .pv (.int .i64) v9)], [], []⟩ (kBlock 2 (kSeq (advOf (laws_gEach_b_E N d) (codeAt (bodyOf Try.f22) [1, 1, 1])) (evC (laws_gEach_b_E N d) (codeAt (bodyOf Try.f22) [1, 1, 1])) (kEnd (laws_gEach_b_E N d) [] Try.f22.results.toList [.bool])))
noncomputable def laws_gEach_b_e0 (N : Nat) (d : Nat) (n : Nat) (v1 : Geo) (v4 : Int) : Option (HR [.bool]) :=
  loopN (advOf (laws_gEach_b_E N d) (codeAt (bodyOf Try.f22) [1, 0, 1, 0, 0])) (evC (laws_gEach_b_E N d) (codeAt (bodyOf Try.f22) [1, 0, 1, 0, 0])) n ⟨[(1, .func 23 []), (2, .ref 2 0), (10, .pv (.list .float) v1.flat), (11, .pv (.int .i64) (v1.flat.length : Int)), (12, .pv (.int .i64) v4)], [(2, .box [.pv (.int .i64) v1.kind, .pv (.int .i64) v1.layout, .pv (.int .i64) v1.srid, .pv (.list .float) v1.flat, .pv (.list (.int .i64)) v1.ends, .pv (.list (.list (.int .i64))) v1.endss, .pv (.list .geo) v1.kids])], []⟩ (kBlock 0 (kSeq (advOf (laws_gEach_b_E N d) (codeAt (bodyOf Try.f22) [1, 1])) (evC (laws_gEach_b_E N d) (codeAt (bodyOf Try.f22) [1, 1])) (kEnd (laws_gEach_b_E N d) [] Try.f22.results.toList [.bool])))
theorem laws_gEach_b_t1 (N : Nat) (d : Nat) : ∀ (n : Nat) (v1 : Geo) (v9 : Int), laws_gEach_b_e1 N d n v1 v9 = laws_gEach_b_l1 N (laws_gEach_b N d) n v1 v9
  | 0, _, _ => rfl
  | n + 1, v1, v9 => by
    have h : laws_gEach_b_e1 N d n v1 = laws_gEach_b_l1 N (laws_gEach_b N d) n v1 := by funext v9; exact laws_gEach_b_t1 N d n v1 v9
    exact (show laws_gEach_b_e1 N d (n + 1) v1 v9 = laws_gEach_b_g1 N (laws_gEach_b N d) v1 (laws_gEach_b_e1 N d n v1) v9 from by kernel_rfl).trans (by rw [h]; rfl)
theorem laws_gEach_b_t0 (N : Nat) (d : Nat) : ∀ (n : Nat) (v1 : Geo) (v4 : Int), laws_gEach_b_e0 N d n v1 v4 = laws_gEach_b_l0 N (laws_gEach_b N d) n v1 v4
  | 0, _, _ => rfl
  | n + 1, v1, v4 => by
    have h1 : (laws_gEach_b_e1 N d N) = (laws_gEach_b_l1 N (laws_gEach_b N d) N) := by funext v1 v9; exact laws_gEach_b_t1 N d N v1 v9
    have h : laws_gEach_b_e0 N d n v1 = laws_gEach_b_l0 N (laws_gEach_b N d) n v1 := by funext v4; exact laws_gEach_b_t0 N d n v1 v4
    exact (show laws_gEach_b_e0 N d (n + 1) v1 v4 = laws_gEach_b_g0 N (laws_gEach_b N d) v1 (laws_gEach_b_e1 N d N) (laws_gEach_b_e0 N d n v1) v4 from by kernel_rfl).trans (by rw [h1, h]; rfl)
theorem laws_gEach_b_t (N : Nat) (d : Nat) (v1 : Geo) : evF (laws_gEach_b_E N d) [] Try.f22 [.k .geo, .fn 23] [.bool] (v1, ()) = laws_gEach_b N (d + 1) v1 := by
  have h0 : (laws_gEach_b_e0 N d N) = (laws_gEach_b_l0 N (laws_gEach_b N d) N) := by funext v1 v4; exact laws_gEach_b_t0 N d N v1 v4
  exact (show evF (laws_gEach_b_E N d) [] Try.f22 [.k .geo, .fn 23] [.bool] (v1, ()) = laws_gEach_b_g N (laws_gEach_b N d) v1 (laws_gEach_b_e0 N d N) from by kernel_rfl).trans (by rw [h0]; rfl)
theorem laws_gEach_b_s' (N : Nat) : ∀ d, (laws_gEach_b_con' N d).Sound Try.prog
  | 0 => fun _ _ _ _ _ _ _ h => by cases h
  | d + 1 => Con.sound_of (c := laws_gEach_b_con' N (d + 1)) (E := (laws_gEach_b_E N d)) (idle := []) Try.func22 (by kernel_rfl) (by kernel_rfl) ⟨(allCons (laws_gEach_b_s' N d) (allCons (laws_gWhole_s N) allNil)), allNil⟩ allNil (fun x y h => (laws_gEach_b_t N d x.1).trans h)
noncomputable def laws_gEach_b_con (N : Nat) : Con := laws_gEach_b_con' N N
theorem laws_gEach_b_s (N : Nat) : (laws_gEach_b_con N).Sound Try.prog := laws_gEach_b_s' N N
/-- pub-orthodrome/pub/gogeom.doubleArea1 -/
noncomputable def gogeom_doubleArea1_E (N : Nat) : Env := ⟨Try.prog, N, [], [(0, ⟨[], [], [0, 1, 2, 3], [], none⟩), (1, ⟨[], [], [0, 1, 2, 3], [], none⟩), (2, ⟨[], [], [0, 1, 2, 3, 9], [], none⟩), (3, ⟨[], [], [0, 2, 3, 9, 10], [], none⟩), (4, ⟨[], [], [0, 2, 3, 9, 10], [], none⟩), (5, ⟨[], [], [0, 2, 3, 9, 10], [], none⟩), (6, ⟨[], [], [9], [], none⟩)], kdL [], []⟩
def gogeom_doubleArea1_g0 (N : Nat) (v1 : (List Nat)) (v3 : Int) (v4 : Int) (r0 : Nat → Int → Option (Nat)) (v13 : Nat) (v14 : Int) : Option (Nat) :=
  (bif (decide ((v14 : Int) < v3)) then ((nth v1 (IntKind.i64.wrap (v14 + 1))).bind fun v15 => (nth v1 (IntKind.i64.wrap ((IntKind.i64.wrap (v14 + 1)) - v4))).bind fun v16 => (Ieee.double.sub v15 v16).bind fun v17 => (nth v1 v14).bind fun v18 => (nth v1 (IntKind.i64.wrap (v14 - v4))).bind fun v19 => (Ieee.double.add v18 v19).bind fun v20 => (Ieee.double.mul v17 v20).bind fun v21 => (Ieee.double.add v13 v21).bind fun v22 => ((r0 v22 (IntKind.i64.wrap (v14 + v4))))) else (some v13))
def gogeom_doubleArea1_l0 (N : Nat) : Nat → (List Nat) → Int → Int → Nat → Int → Option (Nat)
  | 0, _, _, _, _, _ => none
  | n + 1, v1, v3, v4, v13, v14 => gogeom_doubleArea1_g0 N v1 v3 v4 (gogeom_doubleArea1_l0 N n v1 v3 v4) v13 v14
def gogeom_doubleArea1_g (N : Nat) (v1 : (List Nat)) (v2 : Int) (v3 : Int) (v4 : Int) (c0 : (List Nat) → Int → Int → Nat → Int → Option (Nat)) : Option (Nat) :=
  ((c0 v1 v3 v4 0 (IntKind.i64.wrap (v2 + v4))))
def gogeom_doubleArea1 (N : Nat) (v1 : (List Nat)) (v2 : Int) (v3 : Int) (v4 : Int) : Option (Nat) :=
  gogeom_doubleArea1_g N v1 v2 v3 v4 (gogeom_doubleArea1_l0 N N)
set_option maxRecDepth 100000
noncomputable def gogeom_doubleArea1_e0 (N : Nat) (n : Nat) (v1 : (List Nat)) (v3 : Int) (v4 : Int) (v13 : Nat) (v14 : Int) : Option (HR [.float]) :=
  loopN (advOf (gogeom_doubleArea1_E N) (codeAt (bodyOf Try.f158) [1, 1, 0, 1, 0, 0])) (evC (gogeom_doubleArea1_E N) (codeAt (bodyOf Try.f158) [1, 1, 0, 1, 0, 0])) n ⟨[(0, .pv (.list .float) v1), (2, .pv (.int .i64) v3), (3, .pv (.int .i64) v4), (9, .pv .float v13), (10, .pv (.int .i64) v14)], [], []⟩ (kBlock 0 (kSeq (advOf (gogeom_doubleArea1_E N) (codeAt (bodyOf Try.f158) [1, 1, 1])) (evC (gogeom_doubleArea1_E N) (codeAt (bodyOf Try.f158) [1, 1, 1])) (kEnd (gogeom_doubleArea1_E N) [] Try.f158.results.toList [.float])))
theorem gogeom_doubleArea1_t0 (N : Nat) : ∀ (n : Nat) (v1 : (List Nat)) (v3 : Int) (v4 : Int) (v13 : Nat) (v14 : Int), gogeom_doubleArea1_e0 N n v1 v3 v4 v13 v14 = gogeom_doubleArea1_l0 N n v1 v3 v4 v13 v14
  | 0, _, _, _, _, _ => rfl
  | n + 1, v1, v3, v4, v13, v14 => by
    have h : gogeom_doubleArea1_e0 N n v1 v3 v4 = gogeom_doubleArea1_l0 N n v1 v3 v4 := by funext v13 v14; exact gogeom_doubleArea1_t0 N n v1 v3 v4 v13 v14
    exact (show gogeom_doubleArea1_e0 N (n + 1) v1 v3 v4 v13 v14 = gogeom_doubleArea1_g0 N v1 v3 v4 (gogeom_doubleArea1_e0 N n v1 v3 v4) v13 v14 from by kernel_rfl).trans (by rw [h]; rfl)
theorem gogeom_doubleArea1_t (N : Nat) (v1 : (List Nat)) (v2 : Int) (v3 : Int) (v4 : Int) : evF (gogeom_doubleArea1_E N) [] Try.f158 [.k (.list .float), .k (.int .i64), .k (.int .i64), .k (.int .i64)] [.float] (v1, v2, v3, v4, ()) = gogeom_doubleArea1 N v1 v2 v3 v4 := by
  have h0 : (gogeom_doubleArea1_e0 N N) = (gogeom_doubleArea1_l0 N N) := by funext v1 v3 v4 v13 v14; exact gogeom_doubleArea1_t0 N N v1 v3 v4 v13 v14
  exact (show evF (gogeom_doubleArea1_E N) [] Try.f158 [.k (.list .float), .k (.int .i64), .k (.int .i64), .k (.int .i64)] [.float] (v1, v2, v3, v4, ()) = gogeom_doubleArea1_g N v1 v2 v3 v4 (gogeom_doubleArea1_e0 N N) from by kernel_rfl).trans (by rw [h0]; rfl)
noncomputable def gogeom_doubleArea1_con (N : Nat) : Con := ⟨158, [.k (.list .float), .k (.int .i64), .k (.int .i64), .k (.int .i64)], [.float], fun x => gogeom_doubleArea1 N x.1 x.2.1 x.2.2.1 x.2.2.2.1⟩
theorem gogeom_doubleArea1_s (N : Nat) : (gogeom_doubleArea1_con N).Sound Try.prog :=
  Con.sound_of (c := gogeom_doubleArea1_con N) (E := (gogeom_doubleArea1_E N)) (idle := []) Try.func158 (by kernel_rfl) (by kernel_rfl) ⟨allNil, allNil⟩ allNil (fun x y h => (gogeom_doubleArea1_t N x.1 x.2.1 x.2.2.1 x.2.2.2.1).trans h)
/-- pub-orthodrome/pub/gogeom.doubleArea2 -/
noncomputable def gogeom_doubleArea2_E (N : Nat) : Env := ⟨Try.prog, N, [gogeom_doubleArea1_con N], [(0, ⟨[], [], [0, 1, 2, 3], [], none⟩), (1, ⟨[], [], [0, 1, 2, 3], [], none⟩), (2, ⟨[], [], [0, 1, 2, 3, 9], [], none⟩), (3, ⟨[], [], [0, 1, 3, 9, 12, 13, 14], [], none⟩), (4, ⟨[], [], [0, 1, 3, 9, 12, 13, 14], [], none⟩), (5, ⟨[], [], [0, 1, 3, 9, 11, 12, 13, 14], [], none⟩), (6, ⟨[], [], [0, 3, 9, 11, 12, 13, 14], [], none⟩), (7, ⟨[], [], [0, 1, 3, 9, 12, 13, 14], [], none⟩), (8, ⟨[], [], [9], [], none⟩)], kdL [], []⟩
def gogeom_doubleArea2_g0 (N : Nat) (v1 : (List Nat)) (v4 : Int) (v3 : (List Int)) (r0 : Int → Nat → Int → Option (Nat)) (v8 : Int) (v9 : Nat) (v10 : Int) : Option (Nat) :=
  (bif (decide ((v10 : Int) < (v3.length : Int))) then ((nth v3 v10).bind fun v11 => ((gogeom_doubleArea1 N v1 v8 v11 v4).bind fun v12 => (Ieee.double.add v9 v12).bind fun v13 => ((r0 v11 v13 (IntKind.i64.wrap (v10 + 1)))))) else (some v9))
def gogeom_doubleArea2_l0 (N : Nat) : Nat → (List Nat) → Int → (List Int) → Int → Nat → Int → Option (Nat)
  | 0, _, _, _, _, _, _ => none
  | n + 1, v1, v4, v3, v8, v9, v10 => gogeom_doubleArea2_g0 N v1 v4 v3 (gogeom_doubleArea2_l0 N n v1 v4 v3) v8 v9 v10
def gogeom_doubleArea2_g (N : Nat) (v1 : (List Nat)) (v2 : Int) (v3 : (List Int)) (v4 : Int) (c0 : (List Nat) → Int → (List Int) → Int → Nat → Int → Option (Nat)) : Option (Nat) :=
  ((c0 v1 v4 v3 v2 0 0))
def gogeom_doubleArea2 (N : Nat) (v1 : (List Nat)) (v2 : Int) (v3 : (List Int)) (v4 : Int) : Option (Nat) :=
  gogeom_doubleArea2_g N v1 v2 v3 v4 (gogeom_doubleArea2_l0 N N)
set_option maxRecDepth 100000
noncomputable def gogeom_doubleArea2_e0 (N : Nat) (n : Nat) (v1 : (List Nat)) (v4 : Int) (v3 : (List Int)) (v8 : Int) (v9 : Nat) (v10 : Int) : Option (HR [.float]) :=
  loopN (advOf (gogeom_doubleArea2_E N) (codeAt (bodyOf Try.f143) [1, 1, 0, 1, 0, 0])) (evC (gogeom_doubleArea2_E N) (codeAt (bodyOf Try.f143) [1, 1, 0, 1, 0, 0])) n ⟨[(0, .pv (.list .float) v1), (1, .pv (.int .i64) v8), (3, .pv (.int .i64) v4), (9, .pv .float v9), (12, .pv (.list (.int .i64)) v3), (13, .pv (.int .i64) (v3.length : Int)), (14, .pv (.int .i64) v10)], [], []⟩ (kBlock 0 (kSeq (advOf (gogeom_doubleArea2_E N) (codeAt (bodyOf Try.f143) [1, 1, 1])) (evC (gogeom_doubleArea2_E N) (codeAt (bodyOf Try.f143) [1, 1, 1])) (kEnd (gogeom_doubleArea2_E N) [] Try.f143.results.toList [.float])))
theorem gogeom_doubleArea2_t0 (N : Nat) : ∀ (n : Nat) (v1 : (List Nat)) (v4 : Int) (v3 : (List Int)) (v8 : Int) (v9 : Nat) (v10 : Int), gogeom_doubleArea2_e0 N n v1 v4 v3 v8 v9 v10 = gogeom_doubleArea2_l0 N n v1 v4 v3 v8 v9 v10
  | 0, _, _, _, _, _, _ => rfl
  | n + 1, v1, v4, v3, v8, v9, v10 => by
    have h : gogeom_doubleArea2_e0 N n v1 v4 v3 = gogeom_doubleArea2_l0 N n v1 v4 v3 := by funext v8 v9 v10; exact gogeom_doubleArea2_t0 N n v1 v4 v3 v8 v9 v10
    exact (show gogeom_doubleArea2_e0 N (n + 1) v1 v4 v3 v8 v9 v10 = gogeom_doubleArea2_g0 N v1 v4 v3 (gogeom_doubleArea2_e0 N n v1 v4 v3) v8 v9 v10 from by kernel_rfl).trans (by rw [h]; rfl)
theorem gogeom_doubleArea2_t (N : Nat) (v1 : (List Nat)) (v2 : Int) (v3 : (List Int)) (v4 : Int) : evF (gogeom_doubleArea2_E N) [] Try.f143 [.k (.list .float), .k (.int .i64), .k (.list (.int .i64)), .k (.int .i64)] [.float] (v1, v2, v3, v4, ()) = gogeom_doubleArea2 N v1 v2 v3 v4 := by
  have h0 : (gogeom_doubleArea2_e0 N N) = (gogeom_doubleArea2_l0 N N) := by funext v1 v4 v3 v8 v9 v10; exact gogeom_doubleArea2_t0 N N v1 v4 v3 v8 v9 v10
  exact (show evF (gogeom_doubleArea2_E N) [] Try.f143 [.k (.list .float), .k (.int .i64), .k (.list (.int .i64)), .k (.int .i64)] [.float] (v1, v2, v3, v4, ()) = gogeom_doubleArea2_g N v1 v2 v3 v4 (gogeom_doubleArea2_e0 N N) from by kernel_rfl).trans (by rw [h0]; rfl)
noncomputable def gogeom_doubleArea2_con (N : Nat) : Con := ⟨143, [.k (.list .float), .k (.int .i64), .k (.list (.int .i64)), .k (.int .i64)], [.float], fun x => gogeom_doubleArea2 N x.1 x.2.1 x.2.2.1 x.2.2.2.1⟩
theorem gogeom_doubleArea2_s (N : Nat) : (gogeom_doubleArea2_con N).Sound Try.prog :=
  Con.sound_of (c := gogeom_doubleArea2_con N) (E := (gogeom_doubleArea2_E N)) (idle := []) Try.func143 (by kernel_rfl) (by kernel_rfl) ⟨(allCons (gogeom_doubleArea1_s N) allNil), allNil⟩ allNil (fun x y h => (gogeom_doubleArea2_t N x.1 x.2.1 x.2.2.1 x.2.2.2.1).trans h)
/-- pub-orthodrome/pub/gogeom.doubleArea3 -/
noncomputable def gogeom_doubleArea3_E (N : Nat) : Env := ⟨Try.prog, N, [gogeom_doubleArea2_con N], [(0, ⟨[], [], [0, 1, 2, 3], [], none⟩), (1, ⟨[], [], [0, 1, 2, 3], [], none⟩), (2, ⟨[], [], [0, 1, 2, 3, 9], [], none⟩), (3, ⟨[], [], [0, 1, 3, 9, 12, 13, 14], [], none⟩), (4, ⟨[], [], [0, 1, 3, 9, 12, 13, 14], [], none⟩), (5, ⟨[], [], [0, 1, 3, 9, 11, 12, 13, 14], [], none⟩), (6, ⟨[], [], [0, 3, 9, 11, 12, 13, 14], [], none⟩), (7, ⟨[], [], [0, 1, 3, 9, 12, 13, 14], [], none⟩), (8, ⟨[], [], [9], [], none⟩)], kdL [], []⟩
def gogeom_doubleArea3_g0 (N : Nat) (v1 : (List Nat)) (v4 : Int) (v3 : (List (List Int))) (r0 : Int → Nat → Int → Option (Nat)) (v9 : Int) (v10 : Nat) (v11 : Int) : Option (Nat) :=
  (bif (decide ((v11 : Int) < (v3.length : Int))) then ((nth v3 v11).bind fun v12 => ((gogeom_doubleArea2 N v1 v9 v12 v4).bind fun v13 => (Ieee.double.add v10 v13).bind fun v14 => ((nth v12 (IntKind.i64.wrap ((v12.length : Int) - 1))).bind fun v15 => ((r0 v15 v14 (IntKind.i64.wrap (v11 + 1))))))) else (some v10))
def gogeom_doubleArea3_l0 (N : Nat) : Nat → (List Nat) → Int → (List (List Int)) → Int → Nat → Int → Option (Nat)
  | 0, _, _, _, _, _, _ => none
  | n + 1, v1, v4, v3, v9, v10, v11 => gogeom_doubleArea3_g0 N v1 v4 v3 (gogeom_doubleArea3_l0 N n v1 v4 v3) v9 v10 v11
def gogeom_doubleArea3_g (N : Nat) (v1 : (List Nat)) (v2 : Int) (v3 : (List (List Int))) (v4 : Int) (c0 : (List Nat) → Int → (List (List Int)) → Int → Nat → Int → Option (Nat)) : Option (Nat) :=
  ((c0 v1 v4 v3 v2 0 0))
def gogeom_doubleArea3 (N : Nat) (v1 : (List Nat)) (v2 : Int) (v3 : (List (List Int))) (v4 : Int) : Option (Nat) :=
  gogeom_doubleArea3_g N v1 v2 v3 v4 (gogeom_doubleArea3_l0 N N)
set_option maxRecDepth 100000
noncomputable def gogeom_doubleArea3_e0 (N : Nat) (n : Nat) (v1 : (List Nat)) (v4 : Int) (v3 : (List (List Int))) (v9 : Int) (v10 : Nat) (v11 : Int) : Option (HR [.float]) :=
  loopN (advOf (gogeom_doubleArea3_E N) (codeAt (bodyOf Try.f118) [1, 1, 0, 1, 0, 0])) (evC (gogeom_doubleArea3_E N) (codeAt (bodyOf Try.f118) [1, 1, 0, 1, 0, 0])) n ⟨[(0, .pv (.list .float) v1), (1, .pv (.int .i64) v9), (3, .pv (.int .i64) v4), (9, .pv .float v10), (12, .pv (.list (.list (.int .i64))) v3), (13, .pv (.int .i64) (v3.length : Int)), (14, .pv (.int .i64) v11)], [], []⟩ (kBlock 0 (kSeq (advOf (gogeom_doubleArea3_E N) (codeAt (bodyOf Try.f118) [1, 1, 1])) (evC (gogeom_doubleArea3_E N) (codeAt (bodyOf Try.f118) [1, 1, 1])) (kEnd (gogeom_doubleArea3_E N) [] Try.f118.results.toList [.float])))
theorem gogeom_doubleArea3_t0 (N : Nat) : ∀ (n : Nat) (v1 : (List Nat)) (v4 : Int) (v3 : (List (List Int))) (v9 : Int) (v10 : Nat) (v11 : Int), gogeom_doubleArea3_e0 N n v1 v4 v3 v9 v10 v11 = gogeom_doubleArea3_l0 N n v1 v4 v3 v9 v10 v11
  | 0, _, _, _, _, _, _ => rfl
  | n + 1, v1, v4, v3, v9, v10, v11 => by
    have h : gogeom_doubleArea3_e0 N n v1 v4 v3 = gogeom_doubleArea3_l0 N n v1 v4 v3 := by funext v9 v10 v11; exact gogeom_doubleArea3_t0 N n v1 v4 v3 v9 v10 v11
    exact (show gogeom_doubleArea3_e0 N (n + 1) v1 v4 v3 v9 v10 v11 = gogeom_doubleArea3_g0 N v1 v4 v3 (gogeom_doubleArea3_e0 N n v1 v4 v3) v9 v10 v11 from by kernel_rfl).trans (by rw [h]; rfl)
theorem gogeom_doubleArea3_t (N : Nat) (v1 : (List Nat)) (v2 : Int) (v3 : (List (List Int))) (v4 : Int) : evF (gogeom_doubleArea3_E N) [] Try.f118 [.k (.list .float), .k (.int .i64), .k (.list (.list (.int .i64))), .k (.int .i64)] [.float] (v1, v2, v3, v4, ()) = gogeom_doubleArea3 N v1 v2 v3 v4 := by
  have h0 : (gogeom_doubleArea3_e0 N N) = (gogeom_doubleArea3_l0 N N) := by funext v1 v4 v3 v9 v10 v11; exact gogeom_doubleArea3_t0 N N v1 v4 v3 v9 v10 v11
  exact (show evF (gogeom_doubleArea3_E N) [] Try.f118 [.k (.list .float), .k (.int .i64), .k (.list (.list (.int .i64))), .k (.int .i64)] [.float] (v1, v2, v3, v4, ()) = gogeom_doubleArea3_g N v1 v2 v3 v4 (gogeom_doubleArea3_e0 N N) from by kernel_rfl).trans (by rw [h0]; rfl)
noncomputable def gogeom_doubleArea3_con (N : Nat) : Con := ⟨118, [.k (.list .float), .k (.int .i64), .k (.list (.list (.int .i64))), .k (.int .i64)], [.float], fun x => gogeom_doubleArea3 N x.1 x.2.1 x.2.2.1 x.2.2.2.1⟩
theorem gogeom_doubleArea3_s (N : Nat) : (gogeom_doubleArea3_con N).Sound Try.prog :=
  Con.sound_of (c := gogeom_doubleArea3_con N) (E := (gogeom_doubleArea3_E N)) (idle := []) Try.func118 (by kernel_rfl) (by kernel_rfl) ⟨(allCons (gogeom_doubleArea2_s N) allNil), allNil⟩ allNil (fun x y h => (gogeom_doubleArea3_t N x.1 x.2.1 x.2.2.1 x.2.2.2.1).trans h)
/-- pub-orthodrome/pub/gogeom.DoorDoubleArea3 -/
noncomputable def gogeom_DoorDoubleArea3_E (N : Nat) : Env := ⟨Try.prog, N, [gogeom_doubleArea3_con N], [(0, ⟨[], [], [0, 1, 2], [], none⟩), (1, ⟨[], [], [0, 1, 2], [], none⟩)], kdL [], []⟩
def gogeom_DoorDoubleArea3_g (N : Nat) (v1 : (List Nat)) (v2 : (List (List Int))) (v3 : Int) : Option (Nat) :=
  ((gogeom_doubleArea3 N v1 0 v2 v3).bind fun v4 => (some v4))
def gogeom_DoorDoubleArea3 (N : Nat) (v1 : (List Nat)) (v2 : (List (List Int))) (v3 : Int) : Option (Nat) :=
  gogeom_DoorDoubleArea3_g N v1 v2 v3
set_option maxRecDepth 100000
theorem gogeom_DoorDoubleArea3_t (N : Nat) (v1 : (List Nat)) (v2 : (List (List Int))) (v3 : Int) : evF (gogeom_DoorDoubleArea3_E N) [] Try.f71 [.k (.list .float), .k (.list (.list (.int .i64))), .k (.int .i64)] [.float] (v1, v2, v3, ()) = gogeom_DoorDoubleArea3 N v1 v2 v3 := by
  exact (show evF (gogeom_DoorDoubleArea3_E N) [] Try.f71 [.k (.list .float), .k (.list (.list (.int .i64))), .k (.int .i64)] [.float] (v1, v2, v3, ()) = gogeom_DoorDoubleArea3_g N v1 v2 v3 from by kernel_rfl).trans (by rfl)
noncomputable def gogeom_DoorDoubleArea3_con (N : Nat) : Con := ⟨71, [.k (.list .float), .k (.list (.list (.int .i64))), .k (.int .i64)], [.float], fun x => gogeom_DoorDoubleArea3 N x.1 x.2.1 x.2.2.1⟩
theorem gogeom_DoorDoubleArea3_s (N : Nat) : (gogeom_DoorDoubleArea3_con N).Sound Try.prog :=
  Con.sound_of (c := gogeom_DoorDoubleArea3_con N) (E := (gogeom_DoorDoubleArea3_E N)) (idle := []) Try.func71 (by kernel_rfl) (by kernel_rfl) ⟨(allCons (gogeom_doubleArea3_s N) allNil), allNil⟩ allNil (fun x y h => (gogeom_DoorDoubleArea3_t N x.1 x.2.1 x.2.2.1).trans h)
/-- pub-orthodrome/impl.DoubleArea3 -/
noncomputable def impl_DoubleArea3_E (N : Nat) : Env := ⟨Try.prog, N, [gogeom_DoorDoubleArea3_con N], [(0, ⟨[], [], [0, 1, 2], [], none⟩), (1, ⟨[], [], [0, 1, 2, 6, 7], [6, 7], none⟩), (2, ⟨[], [], [0, 1, 2, 6, 7], [6, 7], none⟩)], kdL [], []⟩
def impl_DoubleArea3_g (N : Nat) (v1 : (List Nat)) (v2 : (List (List Int))) (v3 : Int) : Option (Nat × Bool) :=
  ((gogeom_DoorDoubleArea3 N v1 v2 v3).bind fun v4 => (some (v4, true)))
def impl_DoubleArea3 (N : Nat) (v1 : (List Nat)) (v2 : (List (List Int))) (v3 : Int) : Option (Nat × Bool) :=
  impl_DoubleArea3_g N v1 v2 v3
set_option maxRecDepth 100000
theorem impl_DoubleArea3_t (N : Nat) (v1 : (List Nat)) (v2 : (List (List Int))) (v3 : Int) : evF (impl_DoubleArea3_E N) [70] Try.f24 [.k (.list .float), .k (.list (.list (.int .i64))), .k (.int .i64)] [.float, .bool] (v1, v2, v3, ()) = impl_DoubleArea3 N v1 v2 v3 := by
  exact (show evF (impl_DoubleArea3_E N) [70] Try.f24 [.k (.list .float), .k (.list (.list (.int .i64))), .k (.int .i64)] [.float, .bool] (v1, v2, v3, ()) = impl_DoubleArea3_g N v1 v2 v3 from by kernel_rfl).trans (by rfl)
noncomputable def impl_DoubleArea3_con (N : Nat) : Con := ⟨24, [.k (.list .float), .k (.list (.list (.int .i64))), .k (.int .i64)], [.float, .bool], fun x => impl_DoubleArea3 N x.1 x.2.1 x.2.2.1⟩
theorem impl_DoubleArea3_s (N : Nat) : (impl_DoubleArea3_con N).Sound Try.prog :=
  Con.sound_of (c := impl_DoubleArea3_con N) (E := (impl_DoubleArea3_E N)) (idle := [70]) Try.func24 (by kernel_rfl) (by kernel_rfl) ⟨(allCons (gogeom_DoorDoubleArea3_s N) allNil), allNil⟩ (allCons (idle_of Try.func70 (by kernel_rfl)) allNil) (fun x y h => (impl_DoubleArea3_t N x.1 x.2.1 x.2.2.1).trans h)
/-- pub-orthodrome/spec.NumParts -/
noncomputable def spec_NumParts_E (N : Nat) : Env := ⟨Try.prog, N, [], [(0, ⟨[], [], [0], [], none⟩), (1, ⟨[], [], [1], [1], none⟩), (2, ⟨[], [], [1, 4], [1], none⟩), (3, ⟨[], [], [1, 4, 5], [1], none⟩), (4, ⟨[], [], [1, 4, 5], [1], none⟩), (5, ⟨[], [], [1, 4, 5], [1], some N⟩), (7, ⟨[], [], [1, 12], [1], none⟩), (8, ⟨[], [], [1], [1], none⟩)], kdL [], []⟩
def spec_NumParts_g0 (N : Nat) (v1 : Geo) (v2 : Bool) : Option (Int) :=
  bif v2 then (some (v1.ends.length : Int)) else (bif (v1.kind == 6) then (some (v1.endss.length : Int)) else (some (v1.kids.length : Int)))
def spec_NumParts_j0 (N : Nat) (v1 : Geo) (v2 : Bool) : Option (Int) :=
  gate N (spec_NumParts_g0 N v1 v2)
def spec_NumParts_g (N : Nat) (v1 : Geo) (c0 : Geo → Bool → Option (Int)) : Option (Int) :=
  (bif (v1.kind == 3) then (c0 v1 (v1.kind == 3)) else (bif (v1.kind == 4) then (c0 v1 (v1.kind == 4)) else (c0 v1 (v1.kind == 5))))
def spec_NumParts (N : Nat) (v1 : Geo) : Option (Int) :=
  spec_NumParts_g N v1 (spec_NumParts_j0 N)
set_option maxRecDepth 100000
noncomputable def spec_NumParts_e0 (N : Nat) (v1 : Geo) (v2 : Bool) : Option (HR [(.int .i64)]) :=
  gate N (evC (spec_NumParts_E N) (codeAt (bodyOf Try.f119) [1, 0, 1, 0, 1]) ⟨[(1, .ref 1 0), (4, .pv (.int .i64) v1.kind), (5, .pv .bool v2)], [(1, .box [.pv (.int .i64) v1.kind, .pv (.int .i64) v1.layout, .pv (.int .i64) v1.srid, .pv (.list .float) v1.flat, .pv (.list (.int .i64)) v1.ends, .pv (.list (.list (.int .i64))) v1.endss, .pv (.list .geo) v1.kids])], []⟩ (kBlock 0 (kSeq (advOf (spec_NumParts_E N) (codeAt (bodyOf Try.f119) [1, 1])) (evC (spec_NumParts_E N) (codeAt (bodyOf Try.f119) [1, 1])) (kEnd (spec_NumParts_E N) [] Try.f119.results.toList [(.int .i64)]))))
theorem spec_NumParts_t0 (N : Nat) (v1 : Geo) (v2 : Bool) : spec_NumParts_e0 N v1 v2 = spec_NumParts_j0 N v1 v2 := by
  exact (congrArg (gate N) (show evC (spec_NumParts_E N) (codeAt (bodyOf Try.f119) [1, 0, 1, 0, 1]) ⟨[(1, .ref 1 0), (4, .pv (.int .i64) v1.kind), (5, .pv .bool v2)], [(1, .box [.pv (.int .i64) v1.kind, .pv (.int .i64) v1.layout, .pv (.int .i64) v1.srid, .pv (.list .float) v1.flat, .pv (.list (.int .i64)) v1.ends, .pv (.list (.list (.int .i64))) v1.endss, .pv (.list .geo) v1.kids])], []⟩ (kBlock 0 (kSeq (advOf (spec_NumParts_E N) (codeAt (bodyOf Try.f119) [1, 1])) (evC (spec_NumParts_E N) (codeAt (bodyOf Try.f119) [1, 1])) (kEnd (spec_NumParts_E N) [] Try.f119.results.toList [(.int .i64)]))) = spec_NumParts_g0 N v1 v2 from by kernel_rfl)).trans (by rfl)
theorem spec_NumParts_t (N : Nat) (v1 : Geo) : evF (spec_NumParts_E N) [] Try.f119 [.k .geo] [(.int .i64)] (v1, ()) = spec_NumParts N v1 := by
  have h0 : (spec_NumParts_e0 N) = (spec_NumParts_j0 N) := by funext v1 v2; exact spec_NumParts_t0 N v1 v2
  exact (show evF (spec_NumParts_E N) [] Try.f119 [.k .geo] [(.int .i64)] (v1, ()) = spec_NumParts_g N v1 (spec_NumParts_e0 N) from by kernel_rfl).trans (by rw [h0]; rfl)
noncomputable def spec_NumParts_con (N : Nat) : Con := ⟨119, [.k .geo], [(.int .i64)], fun x => spec_NumParts N x.1⟩
theorem spec_NumParts_s (N : Nat) : (spec_NumParts_con N).Sound Try.prog :=
  Con.sound_of (c := spec_NumParts_con N) (E := (spec_NumParts_E N)) (idle := []) Try.func119 (by kernel_rfl) (by kernel_rfl) ⟨allNil, allNil⟩ allNil (fun x y h => (spec_NumParts_t N x.1).trans h)
/-- pub-orthodrome/spec.KidOf -/
noncomputable def spec_KidOf_E (N : Nat) : Env := ⟨Try.prog, N, [], [(0, ⟨[], [], [0], [], none⟩), (1, ⟨[], [], [0], [], none⟩), (2, ⟨[], [], [0, 8], [], none⟩), (3, ⟨[], [], [], [], some N⟩)], kdL [], []⟩
def spec_KidOf_g0 (N : Nat) : Option (Int) :=
  (some 0)
def spec_KidOf_j0 (N : Nat) : Option (Int) :=
  gate N (spec_KidOf_g0 N)
def spec_KidOf_g (N : Nat) (v1 : Int) (c0 : Option (Int)) : Option (Int) :=
  (bif (decide ((v1 : Int) ≥ 4)) then (bif (decide ((v1 : Int) ≤ 6)) then (some (IntKind.i64.wrap (v1 - 3))) else c0) else c0)
def spec_KidOf (N : Nat) (v1 : Int) : Option (Int) :=
  spec_KidOf_g N v1 (spec_KidOf_j0 N)
set_option maxRecDepth 100000
noncomputable def spec_KidOf_e0 (N : Nat) : Option (HR [(.int .i64)]) :=
  gate N (evC (spec_KidOf_E N) (codeAt (bodyOf Try.f144) [1, 1]) ⟨[], [], []⟩ (kEnd (spec_KidOf_E N) [] Try.f144.results.toList [(.int .i64)]))
theorem spec_KidOf_t0 (N : Nat) : spec_KidOf_e0 N = spec_KidOf_j0 N := by
  exact (congrArg (gate N) (show evC (spec_KidOf_E N) (codeAt (bodyOf Try.f144) [1, 1]) ⟨[], [], []⟩ (kEnd (spec_KidOf_E N) [] Try.f144.results.toList [(.int .i64)]) = spec_KidOf_g0 N from by kernel_rfl)).trans (by rfl)
theorem spec_KidOf_t (N : Nat) (v1 : Int) : evF (spec_KidOf_E N) [] Try.f144 [.k (.int .i64)] [(.int .i64)] (v1, ()) = spec_KidOf N v1 := by
  have h0 : (spec_KidOf_e0 N) = (spec_KidOf_j0 N) := spec_KidOf_t0 N
  exact (show evF (spec_KidOf_E N) [] Try.f144 [.k (.int .i64)] [(.int .i64)] (v1, ()) = spec_KidOf_g N v1 (spec_KidOf_e0 N) from by kernel_rfl).trans (by rw [h0]; rfl)
noncomputable def spec_KidOf_con (N : Nat) : Con := ⟨144, [.k (.int .i64)], [(.int .i64)], fun x => spec_KidOf N x.1⟩
theorem spec_KidOf_s (N : Nat) : (spec_KidOf_con N).Sound Try.prog :=
  Con.sound_of (c := spec_KidOf_con N) (E := (spec_KidOf_E N)) (idle := []) Try.func144 (by kernel_rfl) (by kernel_rfl) ⟨allNil, allNil⟩ allNil (fun x y h => (spec_KidOf_t N x.1).trans h)
/-- pub-orthodrome/spec.Part -/
noncomputable def spec_Part_E (N : Nat) : Env := ⟨Try.prog, N, [spec_KidOf_con N], [(0, ⟨[], [], [0, 1], [], none⟩), (1, ⟨[], [], [1, 2, 4], [2, 4], none⟩), (2, ⟨[], [], [1, 2, 4, 16], [2, 4], none⟩), (3, ⟨[], [], [1, 2, 4], [2, 4], none⟩), (4, ⟨[], [], [1, 2, 4, 24], [2, 4], none⟩), (5, ⟨[], [], [1, 2, 4, 5], [2, 4], none⟩), (6, ⟨[], [], [1, 2, 4, 5, 28, 29, 30], [2, 4], none⟩), (7, ⟨[], [], [1, 2, 4, 5, 28, 29, 30], [2, 4], none⟩), (8, ⟨[], [], [1, 2, 4, 5, 7, 28, 29, 30], [2, 4], none⟩), (9, ⟨[], [], [1, 2, 4, 5, 7, 28, 29, 30, 36], [2, 4], none⟩), (10, ⟨[], [], [1, 2, 4, 5, 28, 29, 30], [2, 4], some N⟩), (11, ⟨[], [], [1, 2, 4, 5], [2, 4], none⟩), (12, ⟨[], [], [1, 2, 4, 5, 8], [2, 4, 8], none⟩), (13, ⟨[], [], [1, 2, 4, 5, 8, 9], [2, 4, 8], none⟩), (14, ⟨[], [(8, 4, 3, (.int .i64), 91450)], [2, 4, 5, 8, 9, 52, 53, 54], [2, 4, 8, 91450], none⟩), (15, ⟨[], [], [2, 4, 5, 8, 52, 53, 54], [2, 4, 8, 91450], none⟩), (16, ⟨[], [], [2, 4, 5, 8, 11, 52, 53, 54], [2, 4, 8, 91450], none⟩), (17, ⟨[], [], [2, 4, 5, 8, 11, 52, 53, 54], [2, 4, 8, 64], none⟩), (18, ⟨[], [], [2, 4, 5, 8, 9, 52, 53, 54], [2, 4, 8, 64], none⟩), (19, ⟨[], [], [2, 4, 5, 8, 9], [2, 4, 8, 91450], none⟩), (20, ⟨[], [], [4, 8], [4, 8, 74, 91450], none⟩), (21, ⟨[], [], [1, 2, 4], [2, 4], none⟩), (22, ⟨[], [], [1, 2, 4, 12], [2, 4], none⟩), (23, ⟨[], [], [1, 2, 4, 12, 78], [2, 4], none⟩), (24, ⟨[], [], [1, 2, 4, 12], [2, 4], some N⟩), (25, ⟨[], [], [1, 2, 4, 12, 13], [2, 4], none⟩), (26, ⟨[], [], [1, 2, 4, 12, 13, 87], [2, 4], none⟩), (27, ⟨[], [], [1, 2, 4, 12, 13], [2, 4], some N⟩)], kdL [(3, (.int .i64)), (22, .float)], []⟩
def spec_Part_g1 (N : Nat) (v2 : Int) (v1 : Geo) (v4 : (Nat × Nat)) (v9 : Int) (r0 : Int → Int → Option (((Int × Int × Int × (List Nat) × (List Int) × (List (List Int)) × (List Geo) × Unit) × Unit))) (v12 : Int) : Option (((Int × Int × Int × (List Nat) × (List Int) × (List (List Int)) × (List Geo) × Unit) × Unit)) :=
  (r0 v12 (IntKind.i64.wrap (v9 + 1)))
def spec_Part_j1 (N : Nat) (r0 : Int → Int → Option (((Int × Int × Int × (List Nat) × (List Int) × (List (List Int)) × (List Geo) × Unit) × Unit))) (v2 : Int) (v1 : Geo) (v4 : (Nat × Nat)) (v9 : Int) (v12 : Int) : Option (((Int × Int × Int × (List Nat) × (List Int) × (List (List Int)) × (List Geo) × Unit) × Unit)) :=
  gate N (spec_Part_g1 N v2 v1 v4 v9 r0 v12)
def spec_Part_g2 (N : Nat) (v8 : Int) (v13 : (List Int)) (v1 : Geo) (r2 : Int → Int → (List Int) → Option (((Int × Int × Int × (List Nat) × (List Int) × (List (List Int)) × (List Geo) × Unit) × Unit))) (v15 : Int) (v16 : Int) (v17 : (List Int)) : Option (((Int × Int × Int × (List Nat) × (List Int) × (List (List Int)) × (List Geo) × Unit) × Unit)) :=
  (bif (decide ((v16 : Int) < (v13.length : Int))) then ((nth v13 v16).bind fun v18 => ((lim ((v17.length + ([(IntKind.i64.wrap (v18 - v8))] : List Int).length) * 8)).bind fun _ => ((r2 v18 (IntKind.i64.wrap (v16 + 1)) (v17 ++ ([(IntKind.i64.wrap (v18 - v8))] : List Int)))))) else ((chk2 v8 v15 v1.flat.length).bind fun v19 => (lim ((([] : List Nat).length + ((v1.flat.drop v19.1).take (v19.2 - v19.1)).length) * 8)).bind fun _ => (some ((3, v1.layout, 0, (([] : List Nat) ++ ((v1.flat.drop v19.1).take (v19.2 - v19.1))), v17, ([] : List (List Int)), ([] : List Geo), ()), ()))))
def spec_Part_l2 (N : Nat) : Nat → Int → (List Int) → Geo → Int → Int → (List Int) → Option (((Int × Int × Int × (List Nat) × (List Int) × (List (List Int)) × (List Geo) × Unit) × Unit))
  | 0, _, _, _, _, _, _ => none
  | n + 1, v8, v13, v1, v15, v16, v17 => spec_Part_g2 N v8 v13 v1 (spec_Part_l2 N n v8 v13 v1) v15 v16 v17
def spec_Part_g0 (N : Nat) (v2 : Int) (v1 : Geo) (v4 : (Nat × Nat)) (c1 : Int → Int → Option (((Int × Int × Int × (List Nat) × (List Int) × (List (List Int)) × (List Geo) × Unit) × Unit))) (c2 : Int → (List Int) → Geo → Int → Int → (List Int) → Option (((Int × Int × Int × (List Nat) × (List Int) × (List (List Int)) × (List Geo) × Unit) × Unit))) (r0 : Int → Int → Option (((Int × Int × Int × (List Nat) × (List Int) × (List (List Int)) × (List Geo) × Unit) × Unit))) (v8 : Int) (v9 : Int) : Option (((Int × Int × Int × (List Nat) × (List Int) × (List (List Int)) × (List Geo) × Unit) × Unit)) :=
  (bif (decide ((v9 : Int) < (((v1.endss.drop v4.1).take (v4.2 - v4.1)).length : Int))) then ((nth ((v1.endss.drop v4.1).take (v4.2 - v4.1)) v9).bind fun v10 => (bif (decide (((v10.length : Int) : Int) > 0)) then ((nth v10 (IntKind.i64.wrap ((v10.length : Int) - 1))).bind fun v11 => (c1 v9 v11)) else (c1 v9 v8))) else ((nth v1.endss v2).bind fun v13 => ((c2 v8 v13 v1 v8 0 ([] : List Int)))))
def spec_Part_l0 (N : Nat) : Nat → Int → Geo → (Nat × Nat) → Int → Int → Option (((Int × Int × Int × (List Nat) × (List Int) × (List (List Int)) × (List Geo) × Unit) × Unit))
  | 0, _, _, _, _, _ => none
  | n + 1, v2, v1, v4, v8, v9 => spec_Part_g0 N v2 v1 v4 (spec_Part_j1 N (spec_Part_l0 N n v2 v1 v4) v2 v1 v4) (spec_Part_l2 N N) (spec_Part_l0 N n v2 v1 v4) v8 v9
def spec_Part_g4 (N : Nat) (v2 : Int) (v21 : Int) (v1 : Geo) (v23 : Int) : Option (((Int × Int × Int × (List Nat) × (List Int) × (List (List Int)) × (List Geo) × Unit) × Unit)) :=
  (nth v1.ends v2).bind fun v24 => (chk2 v21 v24 v1.flat.length).bind fun v25 => (lim ((([] : List Nat).length + ((v1.flat.drop v25.1).take (v25.2 - v25.1)).length) * 8)).bind fun _ => (some ((v23, v1.layout, 0, (([] : List Nat) ++ ((v1.flat.drop v25.1).take (v25.2 - v25.1))), ([] : List Int), ([] : List (List Int)), ([] : List Geo), ()), ()))
def spec_Part_j4 (N : Nat) (v2 : Int) (v21 : Int) (v1 : Geo) (v23 : Int) : Option (((Int × Int × Int × (List Nat) × (List Int) × (List (List Int)) × (List Geo) × Unit) × Unit)) :=
  gate N (spec_Part_g4 N v2 v21 v1 v23)
def spec_Part_g3 (N : Nat) (v2 : Int) (v1 : Geo) (c4 : Int → Int → Geo → Int → Option (((Int × Int × Int × (List Nat) × (List Int) × (List (List Int)) × (List Geo) × Unit) × Unit))) (v21 : Int) : Option (((Int × Int × Int × (List Nat) × (List Int) × (List (List Int)) × (List Geo) × Unit) × Unit)) :=
  (bif (v1.kind != 3) then ((spec_KidOf N v1.kind).bind fun v22 => (c4 v2 v21 v1 v22)) else (c4 v2 v21 v1 8))
def spec_Part_j3 (N : Nat) (v2 : Int) (v1 : Geo) (v21 : Int) : Option (((Int × Int × Int × (List Nat) × (List Int) × (List (List Int)) × (List Geo) × Unit) × Unit)) :=
  gate N (spec_Part_g3 N v2 v1 (spec_Part_j4 N) v21)
def spec_Part_g (N : Nat) (v1 : Geo) (v2 : Int) (c0 : Int → Geo → (Nat × Nat) → Int → Int → Option (((Int × Int × Int × (List Nat) × (List Int) × (List (List Int)) × (List Geo) × Unit) × Unit))) (c3 : Int → Geo → Int → Option (((Int × Int × Int × (List Nat) × (List Int) × (List (List Int)) × (List Geo) × Unit) × Unit))) : Option (((Int × Int × Int × (List Nat) × (List Int) × (List (List Int)) × (List Geo) × Unit) × Unit)) :=
  (bif (v1.kind == 7) then ((nth v1.kids v2).bind fun v3 => (some ((v3.kind, v3.layout, v3.srid, v3.flat, v3.ends, v3.endss, v3.kids, ()), ()))) else (bif (v1.kind == 6) then ((chk2 0 v2 v1.endss.length).bind fun v4 => ((c0 v2 v1 v4 0 0))) else (bif (decide ((v2 : Int) > 0)) then ((nth v1.ends (IntKind.i64.wrap (v2 - 1))).bind fun v20 => (c3 v2 v1 v20)) else (c3 v2 v1 0))))
def spec_Part (N : Nat) (v1 : Geo) (v2 : Int) : Option (((Int × Int × Int × (List Nat) × (List Int) × (List (List Int)) × (List Geo) × Unit) × Unit)) :=
  spec_Part_g N v1 v2 (spec_Part_l0 N N) (spec_Part_j3 N)
set_option maxRecDepth 100000
noncomputable def spec_Part_e1 (N : Nat) (m0 : Nat) (v2 : Int) (v1 : Geo) (v4 : (Nat × Nat)) (v9 : Int) (v12 : Int) : Option (AltD [⟨[.agg [.k (.int .i64), .k (.int .i64), .k (.int .i64), .k (.list .float), .k (.list (.int .i64)), .k (.list (.list (.int .i64))), .k (.list .geo)]], [none, none]⟩]) :=
  gate N (evC (spec_Part_E N) (codeAt (bodyOf Try.f120) [1, 1, 0, 1, 0, 1, 0, 1, 0, 0, 1, 1, 1]) ⟨[(1, .pv (.int .i64) v2), (2, .ref 2 0), (4, .ref 4 0), (5, .pv (.int .i64) v12), (28, .pv (.list (.list (.int .i64))) ((v1.endss.drop v4.1).take (v4.2 - v4.1))), (29, .pv (.int .i64) (((v1.endss.drop v4.1).take (v4.2 - v4.1)).length : Int)), (30, .pv (.int .i64) v9)], [(2, .box [.pv (.int .i64) v1.kind, .pv (.int .i64) v1.layout, .pv (.int .i64) v1.srid, .pv (.list .float) v1.flat, .pv (.list (.int .i64)) v1.ends, .pv (.list (.list (.int .i64))) v1.endss, .pv (.list .geo) v1.kids]), (4, .box [.pv (.int .i64) 0, .pv (.int .i64) 0, .pv (.int .i64) 0, .nils, .nils, .nils, .nils])], []⟩ (kSeq (advOf (spec_Part_E N) (codeAt (bodyOf Try.f120) [1, 1, 0, 1, 0, 1, 0, 1, 0, 0])) (fun st K => loopN (advOf (spec_Part_E N) (codeAt (bodyOf Try.f120) [1, 1, 0, 1, 0, 1, 0, 1, 0, 0])) (evC (spec_Part_E N) (codeAt (bodyOf Try.f120) [1, 1, 0, 1, 0, 1, 0, 1, 0, 0])) m0 st K) (kBlock 0 (kSeq (advOf (spec_Part_E N) (codeAt (bodyOf Try.f120) [1, 1, 0, 1, 0, 1, 1])) (evC (spec_Part_E N) (codeAt (bodyOf Try.f120) [1, 1, 0, 1, 0, 1, 1])) (kSeq (advOf (spec_Part_E N) (codeAt (bodyOf Try.f120) [1, 1, 1])) (evC (spec_Part_E N) (codeAt (bodyOf Try.f120) [1, 1, 1])) (kEnd2 (spec_Part_E N) [] Try.f120.results.toList [⟨[.agg [.k (.int .i64), .k (.int .i64), .k (.int .i64), .k (.list .float), .k (.list (.int .i64)), .k (.list (.list (.int .i64))), .k (.list .geo)]], [none, none]⟩] [.dead, .dead]))))))
noncomputable def spec_Part_e2 (N : Nat) (n : Nat) (v8 : Int) (v13 : (List Int)) (v1 : Geo) (v15 : Int) (v16 : Int) (v17 : (List Int)) : Option (AltD [⟨[.agg [.k (.int .i64), .k (.int .i64), .k (.int .i64), .k (.list .float), .k (.list (.int .i64)), .k (.list (.list (.int .i64))), .k (.list .geo)]], [none, none]⟩]) :=
  loopN (advOf (spec_Part_E N) (codeAt (bodyOf Try.f120) [1, 1, 0, 1, 0, 1, 1, 1, 1, 0, 1, 0, 0])) (evC (spec_Part_E N) (codeAt (bodyOf Try.f120) [1, 1, 0, 1, 0, 1, 1, 1, 1, 0, 1, 0, 0])) n ⟨[(2, .ref 2 0), (4, .ref 4 0), (5, .pv (.int .i64) v8), (8, .ref 8 0), (9, .pv (.int .i64) v15), (52, .pv (.list (.int .i64)) v13), (53, .pv (.int .i64) (v13.length : Int)), (54, .pv (.int .i64) v16)], [(2, .box [.pv (.int .i64) v1.kind, .pv (.int .i64) v1.layout, .pv (.int .i64) v1.srid, .pv (.list .float) v1.flat, .pv (.list (.int .i64)) v1.ends, .pv (.list (.list (.int .i64))) v1.endss, .pv (.list .geo) v1.kids]), (4, .box [.pv (.int .i64) 0, .pv (.int .i64) 0, .pv (.int .i64) 0, .nils, .nils, .nils, .nils]), (8, .box [.pv (.int .i64) 3, .pv (.int .i64) v1.layout, .pv (.int .i64) 0, .nils, .own (.int .i64) 91450, .nils, .nils]), (91450, .arr 3 (.int .i64) v17)], []⟩ (kBlock 2 (kSeq (advOf (spec_Part_E N) (codeAt (bodyOf Try.f120) [1, 1, 0, 1, 0, 1, 1, 1, 1, 1])) (evC (spec_Part_E N) (codeAt (bodyOf Try.f120) [1, 1, 0, 1, 0, 1, 1, 1, 1, 1])) (kSeq (advOf (spec_Part_E N) (codeAt (bodyOf Try.f120) [1, 1, 1])) (evC (spec_Part_E N) (codeAt (bodyOf Try.f120) [1, 1, 1])) (kEnd2 (spec_Part_E N) [] Try.f120.results.toList [⟨[.agg [.k (.int .i64), .k (.int .i64), .k (.int .i64), .k (.list .float), .k (.list (.int .i64)), .k (.list (.list (.int .i64))), .k (.list .geo)]], [none, none]⟩] [.dead, .dead]))))
noncomputable def spec_Part_e0 (N : Nat) (n : Nat) (v2 : Int) (v1 : Geo) (v4 : (Nat × Nat)) (v8 : Int) (v9 : Int) : Option (AltD [⟨[.agg [.k (.int .i64), .k (.int .i64), .k (.int .i64), .k (.list .float), .k (.list (.int .i64)), .k (.list (.list (.int .i64))), .k (.list .geo)]], [none, none]⟩]) :=
  loopN (advOf (spec_Part_E N) (codeAt (bodyOf Try.f120) [1, 1, 0, 1, 0, 1, 0, 1, 0, 0])) (evC (spec_Part_E N) (codeAt (bodyOf Try.f120) [1, 1, 0, 1, 0, 1, 0, 1, 0, 0])) n ⟨[(1, .pv (.int .i64) v2), (2, .ref 2 0), (4, .ref 4 0), (5, .pv (.int .i64) v8), (28, .pv (.list (.list (.int .i64))) ((v1.endss.drop v4.1).take (v4.2 - v4.1))), (29, .pv (.int .i64) (((v1.endss.drop v4.1).take (v4.2 - v4.1)).length : Int)), (30, .pv (.int .i64) v9)], [(2, .box [.pv (.int .i64) v1.kind, .pv (.int .i64) v1.layout, .pv (.int .i64) v1.srid, .pv (.list .float) v1.flat, .pv (.list (.int .i64)) v1.ends, .pv (.list (.list (.int .i64))) v1.endss, .pv (.list .geo) v1.kids]), (4, .box [.pv (.int .i64) 0, .pv (.int .i64) 0, .pv (.int .i64) 0, .nils, .nils, .nils, .nils])], []⟩ (kBlock 0 (kSeq (advOf (spec_Part_E N) (codeAt (bodyOf Try.f120) [1, 1, 0, 1, 0, 1, 1])) (evC (spec_Part_E N) (codeAt (bodyOf Try.f120) [1, 1, 0, 1, 0, 1, 1])) (kSeq (advOf (spec_Part_E N) (codeAt (bodyOf Try.f120) [1, 1, 1])) (evC (spec_Part_E N) (codeAt (bodyOf Try.f120) [1, 1, 1])) (kEnd2 (spec_Part_E N) [] Try.f120.results.toList [⟨[.agg [.k (.int .i64), .k (.int .i64), .k (.int .i64), .k (.list .float), .k (.list (.int .i64)), .k (.list (.list (.int .i64))), .k (.list .geo)]], [none, none]⟩] [.dead, .dead]))))
noncomputable def spec_Part_e4 (N : Nat) (v2 : Int) (v21 : Int) (v1 : Geo) (v23 : Int) : Option (AltD [⟨[.agg [.k (.int .i64), .k (.int .i64), .k (.int .i64), .k (.list .float), .k (.list (.int .i64)), .k (.list (.list (.int .i64))), .k (.list .geo)]], [none, none]⟩]) :=
  gate N (evC (spec_Part_E N) (codeAt (bodyOf Try.f120) [1, 1, 1, 1, 1, 1, 1]) ⟨[(1, .pv (.int .i64) v2), (2, .ref 2 0), (4, .ref 4 0), (12, .pv (.int .i64) v21), (13, .pv (.int .i64) v23)], [(2, .box [.pv (.int .i64) v1.kind, .pv (.int .i64) v1.layout, .pv (.int .i64) v1.srid, .pv (.list .float) v1.flat, .pv (.list (.int .i64)) v1.ends, .pv (.list (.list (.int .i64))) v1.endss, .pv (.list .geo) v1.kids]), (4, .box [.pv (.int .i64) 0, .pv (.int .i64) 0, .pv (.int .i64) 0, .nils, .nils, .nils, .nils])], []⟩ (kEnd2 (spec_Part_E N) [] Try.f120.results.toList [⟨[.agg [.k (.int .i64), .k (.int .i64), .k (.int .i64), .k (.list .float), .k (.list (.int .i64)), .k (.list (.list (.int .i64))), .k (.list .geo)]], [none, none]⟩] [.dead, .dead]))
noncomputable def spec_Part_e3 (N : Nat) (v2 : Int) (v1 : Geo) (v21 : Int) : Option (AltD [⟨[.agg [.k (.int .i64), .k (.int .i64), .k (.int .i64), .k (.list .float), .k (.list (.int .i64)), .k (.list (.list (.int .i64))), .k (.list .geo)]], [none, none]⟩]) :=
  gate N (evC (spec_Part_E N) (codeAt (bodyOf Try.f120) [1, 1, 1, 1, 1]) ⟨[(1, .pv (.int .i64) v2), (2, .ref 2 0), (4, .ref 4 0), (12, .pv (.int .i64) v21)], [(2, .box [.pv (.int .i64) v1.kind, .pv (.int .i64) v1.layout, .pv (.int .i64) v1.srid, .pv (.list .float) v1.flat, .pv (.list (.int .i64)) v1.ends, .pv (.list (.list (.int .i64))) v1.endss, .pv (.list .geo) v1.kids]), (4, .box [.pv (.int .i64) 0, .pv (.int .i64) 0, .pv (.int .i64) 0, .nils, .nils, .nils, .nils])], []⟩ (kEnd2 (spec_Part_E N) [] Try.f120.results.toList [⟨[.agg [.k (.int .i64), .k (.int .i64), .k (.int .i64), .k (.list .float), .k (.list (.int .i64)), .k (.list (.list (.int .i64))), .k (.list .geo)]], [none, none]⟩] [.dead, .dead]))
theorem spec_Part_t1 (N : Nat) (m0 : Nat) (v2 : Int) (v1 : Geo) (v4 : (Nat × Nat)) (v9 : Int) (v12 : Int) : spec_Part_e1 N m0 v2 v1 v4 v9 v12 = spec_Part_j1 N (spec_Part_e0 N m0 v2 v1 v4) v2 v1 v4 v9 v12 := by
  exact (congrArg (gate N) (show evC (spec_Part_E N) (codeAt (bodyOf Try.f120) [1, 1, 0, 1, 0, 1, 0, 1, 0, 0, 1, 1, 1]) ⟨[(1, .pv (.int .i64) v2), (2, .ref 2 0), (4, .ref 4 0), (5, .pv (.int .i64) v12), (28, .pv (.list (.list (.int .i64))) ((v1.endss.drop v4.1).take (v4.2 - v4.1))), (29, .pv (.int .i64) (((v1.endss.drop v4.1).take (v4.2 - v4.1)).length : Int)), (30, .pv (.int .i64) v9)], [(2, .box [.pv (.int .i64) v1.kind, .pv (.int .i64) v1.layout, .pv (.int .i64) v1.srid, .pv (.list .float) v1.flat, .pv (.list (.int .i64)) v1.ends, .pv (.list (.list (.int .i64))) v1.endss, .pv (.list .geo) v1.kids]), (4, .box [.pv (.int .i64) 0, .pv (.int .i64) 0, .pv (.int .i64) 0, .nils, .nils, .nils, .nils])], []⟩ (kSeq (advOf (spec_Part_E N) (codeAt (bodyOf Try.f120) [1, 1, 0, 1, 0, 1, 0, 1, 0, 0])) (fun st K => loopN (advOf (spec_Part_E N) (codeAt (bodyOf Try.f120) [1, 1, 0, 1, 0, 1, 0, 1, 0, 0])) (evC (spec_Part_E N) (codeAt (bodyOf Try.f120) [1, 1, 0, 1, 0, 1, 0, 1, 0, 0])) m0 st K) (kBlock 0 (kSeq (advOf (spec_Part_E N) (codeAt (bodyOf Try.f120) [1, 1, 0, 1, 0, 1, 1])) (evC (spec_Part_E N) (codeAt (bodyOf Try.f120) [1, 1, 0, 1, 0, 1, 1])) (kSeq (advOf (spec_Part_E N) (codeAt (bodyOf Try.f120) [1, 1, 1])) (evC (spec_Part_E N) (codeAt (bodyOf Try.f120) [1, 1, 1])) (kEnd2 (spec_Part_E N) [] Try.f120.results.toList [⟨[.agg [.k (.int .i64), .k (.int .i64), .k (.int .i64), .k (.list .float), .k (.list (.int .i64)), .k (.list (.list (.int .i64))), .k (.list .geo)]], [none, none]⟩] [.dead, .dead]))))) = spec_Part_g1 N v2 v1 v4 v9 (spec_Part_e0 N m0 v2 v1 v4) v12 from by kernel_rfl)).trans (by rfl)
theorem spec_Part_t2 (N : Nat) : ∀ (n : Nat) (v8 : Int) (v13 : (List Int)) (v1 : Geo) (v15 : Int) (v16 : Int) (v17 : (List Int)), spec_Part_e2 N n v8 v13 v1 v15 v16 v17 = spec_Part_l2 N n v8 v13 v1 v15 v16 v17
  | 0, _, _, _, _, _, _ => rfl
  | n + 1, v8, v13, v1, v15, v16, v17 => by
    have h : spec_Part_e2 N n v8 v13 v1 = spec_Part_l2 N n v8 v13 v1 := by funext v15 v16 v17; exact spec_Part_t2 N n v8 v13 v1 v15 v16 v17
    exact (show spec_Part_e2 N (n + 1) v8 v13 v1 v15 v16 v17 = spec_Part_g2 N v8 v13 v1 (spec_Part_e2 N n v8 v13 v1) v15 v16 v17 from by kernel_rfl).trans (by rw [h]; rfl)
theorem spec_Part_t0 (N : Nat) : ∀ (n : Nat) (v2 : Int) (v1 : Geo) (v4 : (Nat × Nat)) (v8 : Int) (v9 : Int), spec_Part_e0 N n v2 v1 v4 v8 v9 = spec_Part_l0 N n v2 v1 v4 v8 v9
  | 0, _, _, _, _, _ => rfl
  | n + 1, v2, v1, v4, v8, v9 => by
    have h1 : (spec_Part_e1 N n v2 v1 v4) = (spec_Part_j1 N (spec_Part_e0 N n v2 v1 v4) v2 v1 v4) := by funext v9 v12; exact spec_Part_t1 N n v2 v1 v4 v9 v12
    have h2 : (spec_Part_e2 N N) = (spec_Part_l2 N N) := by funext v8 v13 v1 v15 v16 v17; exact spec_Part_t2 N N v8 v13 v1 v15 v16 v17
    have h : spec_Part_e0 N n v2 v1 v4 = spec_Part_l0 N n v2 v1 v4 := by funext v8 v9; exact spec_Part_t0 N n v2 v1 v4 v8 v9
    exact (show spec_Part_e0 N (n + 1) v2 v1 v4 v8 v9 = spec_Part_g0 N v2 v1 v4 (spec_Part_e1 N n v2 v1 v4) (spec_Part_e2 N N) (spec_Part_e0 N n v2 v1 v4) v8 v9 from by kernel_rfl).trans (by rw [h1, h2, h]; rfl)
theorem spec_Part_t4 (N : Nat) (v2 : Int) (v21 : Int) (v1 : Geo) (v23 : Int) : spec_Part_e4 N v2 v21 v1 v23 = spec_Part_j4 N v2 v21 v1 v23 := by
  exact (congrArg (gate N) (show evC (spec_Part_E N) (codeAt (bodyOf Try.f120) [1, 1, 1, 1, 1, 1, 1]) ⟨[(1, .pv (.int .i64) v2), (2, .ref 2 0), (4, .ref 4 0), (12, .pv (.int .i64) v21), (13, .pv (.int .i64) v23)], [(2, .box [.pv (.int .i64) v1.kind, .pv (.int .i64) v1.layout, .pv (.int .i64) v1.srid, .pv (.list .float) v1.flat, .pv (.list (.int .i64)) v1.ends, .pv (.list (.list (.int .i64))) v1.endss, .pv (.list .geo) v1.kids]), (4, .box [.pv (.int .i64) 0, .pv (.int .i64) 0, .pv (.int .i64) 0, .nils, .nils, .nils, .nils])], []⟩ (kEnd2 (spec_Part_E N) [] Try.f120.results.toList [⟨[.agg [.k (.int .i64), .k (.int .i64), .k (.int .i64), .k (.list .float), .k (.list (.int .i64)), .k (.list (.list (.int .i64))), .k (.list .geo)]], [none, none]⟩] [.dead, .dead]) = spec_Part_g4 N v2 v21 v1 v23 from by kernel_rfl)).trans (by rfl)
theorem spec_Part_t3 (N : Nat) (v2 : Int) (v1 : Geo) (v21 : Int) : spec_Part_e3 N v2 v1 v21 = spec_Part_j3 N v2 v1 v21 := by
  have h4 : (spec_Part_e4 N) = (spec_Part_j4 N) := by funext v2 v21 v1 v23; exact spec_Part_t4 N v2 v21 v1 v23
  exact (congrArg (gate N) (show evC (spec_Part_E N) (codeAt (bodyOf Try.f120) [1, 1, 1, 1, 1]) ⟨[(1, .pv (.int .i64) v2), (2, .ref 2 0), (4, .ref 4 0), (12, .pv (.int .i64) v21)], [(2, .box [.pv (.int .i64) v1.kind, .pv (.int .i64) v1.layout, .pv (.int .i64) v1.srid, .pv (.list .float) v1.flat, .pv (.list (.int .i64)) v1.ends, .pv (.list (.list (.int .i64))) v1.endss, .pv (.list .geo) v1.kids]), (4, .box [.pv (.int .i64) 0, .pv (.int .i64) 0, .pv (.int .i64) 0, .nils, .nils, .nils, .nils])], []⟩ (kEnd2 (spec_Part_E N) [] Try.f120.results.toList [⟨[.agg [.k (.int .i64), .k (.int .i64), .k (.int .i64), .k (.list .float), .k (.list (.int .i64)), .k (.list (.list (.int .i64))), .k (.list .geo)]], [none, none]⟩] [.dead, .dead]) = spec_Part_g3 N v2 v1 (spec_Part_e4 N) v21 from by kernel_rfl)).trans (by rw [h4]; rfl)
theorem spec_Part_t (N : Nat) (v1 : Geo) (v2 : Int) : evF2 (spec_Part_E N) [] Try.f120 [.k .geo, .k (.int .i64)] [⟨[.agg [.k (.int .i64), .k (.int .i64), .k (.int .i64), .k (.list .float), .k (.list (.int .i64)), .k (.list (.list (.int .i64))), .k (.list .geo)]], [none, none]⟩] (v1, v2, ()) = spec_Part N v1 v2 := by
  have h0 : (spec_Part_e0 N N) = (spec_Part_l0 N N) := by funext v2 v1 v4 v8 v9; exact spec_Part_t0 N N v2 v1 v4 v8 v9
  have h3 : (spec_Part_e3 N) = (spec_Part_j3 N) := by funext v2 v1 v21; exact spec_Part_t3 N v2 v1 v21
  exact (show evF2 (spec_Part_E N) [] Try.f120 [.k .geo, .k (.int .i64)] [⟨[.agg [.k (.int .i64), .k (.int .i64), .k (.int .i64), .k (.list .float), .k (.list (.int .i64)), .k (.list (.list (.int .i64))), .k (.list .geo)]], [none, none]⟩] (v1, v2, ()) = spec_Part_g N v1 v2 (spec_Part_e0 N N) (spec_Part_e3 N) from by kernel_rfl).trans (by rw [h0, h3]; rfl)
noncomputable def spec_Part_con (N : Nat) : Con2 := ⟨120, [.k .geo, .k (.int .i64)], [⟨[.agg [.k (.int .i64), .k (.int .i64), .k (.int .i64), .k (.list .float), .k (.list (.int .i64)), .k (.list (.list (.int .i64))), .k (.list .geo)]], [none, none]⟩], fun x => spec_Part N x.1 x.2.1⟩
theorem spec_Part_s (N : Nat) : (spec_Part_con N).Sound Try.prog :=
  Con2.sound_of (c := spec_Part_con N) (E := (spec_Part_E N)) (idle := []) Try.func120 (by kernel_rfl) (by kernel_rfl) ⟨(allCons (spec_KidOf_s N) allNil), allNil⟩ allNil (fun x y h => (spec_Part_t N x.1 x.2.1).trans h)
/-- pub-orthodrome/spec.Parts -/
noncomputable def spec_Parts_E (N : Nat) : Env := ⟨Try.prog, N, [spec_NumParts_con N], [(0, ⟨[], [], [0], [], none⟩), (1, ⟨[], [], [1], [1], none⟩), (2, ⟨[], [], [1, 3], [1], none⟩), (3, ⟨[(3, 48, .geo, 90300)], [], [1, 3, 6, 7], [1, 90300], none⟩), (4, ⟨[], [], [1, 3, 6, 7], [1, 90300], none⟩), (5, ⟨[], [], [1, 3, 4, 6, 7], [1, 90300], none⟩), (6, ⟨[], [], [1, 3, 6, 7], [1, 15], none⟩), (7, ⟨[], [], [3], [90300], none⟩)], kdL [(48, .geo)], [spec_Part_con N]⟩
def spec_Parts_g0 (N : Nat) (v2 : Int) (v1 : Geo) (r0 : Int → (List Geo) → Option (((List Geo) × Unit))) (v4 : Int) (v5 : (List Geo)) : Option (((List Geo) × Unit)) :=
  (bif (decide ((v4 : Int) < v2)) then ((spec_Part N (Geo.mk v1.kind v1.layout v1.srid v1.flat v1.ends v1.endss v1.kids) v4).bind fun v6 => (lim ((v5.length + ([(Geo.mk v6.1.1 v6.1.2.1 v6.1.2.2.1 v6.1.2.2.2.1 v6.1.2.2.2.2.1 v6.1.2.2.2.2.2.1 v6.1.2.2.2.2.2.2.1)] : List Geo).length) * 120)).bind fun _ => ((r0 (IntKind.i64.wrap (v4 + 1)) (v5 ++ ([(Geo.mk v6.1.1 v6.1.2.1 v6.1.2.2.1 v6.1.2.2.2.1 v6.1.2.2.2.2.1 v6.1.2.2.2.2.2.1 v6.1.2.2.2.2.2.2.1)] : List Geo))))) else (some (v5, ())))
def spec_Parts_l0 (N : Nat) : Nat → Int → Geo → Int → (List Geo) → Option (((List Geo) × Unit))
  | 0, _, _, _, _ => none
  | n + 1, v2, v1, v4, v5 => spec_Parts_g0 N v2 v1 (spec_Parts_l0 N n v2 v1) v4 v5
def spec_Parts_g (N : Nat) (v1 : Geo) (c0 : Int → Geo → Int → (List Geo) → Option (((List Geo) × Unit))) : Option (((List Geo) × Unit)) :=
  ((spec_NumParts N (Geo.mk v1.kind v1.layout v1.srid v1.flat v1.ends v1.endss v1.kids)).bind fun v2 => ((c0 v2 v1 0 ([] : List Geo))))
def spec_Parts (N : Nat) (v1 : Geo) : Option (((List Geo) × Unit)) :=
  spec_Parts_g N v1 (spec_Parts_l0 N N)
set_option maxRecDepth 100000
noncomputable def spec_Parts_e0 (N : Nat) (n : Nat) (v2 : Int) (v1 : Geo) (v4 : Int) (v5 : (List Geo)) : Option (AltD [⟨[.row 48 .geo], [none]⟩]) :=
  loopN (advOf (spec_Parts_E N) (codeAt (bodyOf Try.f72) [1, 1, 0, 1, 0, 0])) (evC (spec_Parts_E N) (codeAt (bodyOf Try.f72) [1, 1, 0, 1, 0, 0])) n ⟨[(1, .ref 1 0), (3, .own .geo 90300), (6, .pv (.int .i64) v2), (7, .pv (.int .i64) v4)], [(1, .box [.pv (.int .i64) v1.kind, .pv (.int .i64) v1.layout, .pv (.int .i64) v1.srid, .pv (.list .float) v1.flat, .pv (.list (.int .i64)) v1.ends, .pv (.list (.list (.int .i64))) v1.endss, .pv (.list .geo) v1.kids]), (90300, .arr 48 .geo v5)], []⟩ (kBlock 0 (kSeq (advOf (spec_Parts_E N) (codeAt (bodyOf Try.f72) [1, 1, 1])) (evC (spec_Parts_E N) (codeAt (bodyOf Try.f72) [1, 1, 1])) (kEnd2 (spec_Parts_E N) [] Try.f72.results.toList [⟨[.row 48 .geo], [none]⟩] [.dead])))
theorem spec_Parts_t0 (N : Nat) : ∀ (n : Nat) (v2 : Int) (v1 : Geo) (v4 : Int) (v5 : (List Geo)), spec_Parts_e0 N n v2 v1 v4 v5 = spec_Parts_l0 N n v2 v1 v4 v5
  | 0, _, _, _, _ => rfl
  | n + 1, v2, v1, v4, v5 => by
    have h : spec_Parts_e0 N n v2 v1 = spec_Parts_l0 N n v2 v1 := by funext v4 v5; exact spec_Parts_t0 N n v2 v1 v4 v5
    exact (show spec_Parts_e0 N (n + 1) v2 v1 v4 v5 = spec_Parts_g0 N v2 v1 (spec_Parts_e0 N n v2 v1) v4 v5 from by kernel_rfl).trans (by rw [h]; rfl)
theorem spec_Parts_t (N : Nat) (v1 : Geo) : evF2 (spec_Parts_E N) [] Try.f72 [.k .geo] [⟨[.row 48 .geo], [none]⟩] (v1, ()) = spec_Parts N v1 := by
  have h0 : (spec_Parts_e0 N N) = (spec_Parts_l0 N N) := by funext v2 v1 v4 v5; exact spec_Parts_t0 N N v2 v1 v4 v5
  exact (show evF2 (spec_Parts_E N) [] Try.f72 [.k .geo] [⟨[.row 48 .geo], [none]⟩] (v1, ()) = spec_Parts_g N v1 (spec_Parts_e0 N N) from by kernel_rfl).trans (by rw [h0]; rfl)
noncomputable def spec_Parts_con (N : Nat) : Con2 := ⟨72, [.k .geo], [⟨[.row 48 .geo], [none]⟩], fun x => spec_Parts N x.1⟩
theorem spec_Parts_s (N : Nat) : (spec_Parts_con N).Sound Try.prog :=
  Con2.sound_of (c := spec_Parts_con N) (E := (spec_Parts_E N)) (idle := []) Try.func72 (by kernel_rfl) (by kernel_rfl) ⟨(allCons (spec_NumParts_s N) allNil), (allCons (spec_Part_s N) allNil)⟩ allNil (fun x y h => (spec_Parts_t N x.1).trans h)
/-- pub-orthodrome/laws.gTwice -/
def laws_gTwice_g3 (N : Nat) (self : Geo → Option (Int)) (v31 : Int) : Option (Int) :=
  (some v31)
def laws_gTwice_j3 (N : Nat) (self : Geo → Option (Int)) (v31 : Int) : Option (Int) :=
  gate N (laws_gTwice_g3 N self v31)
def laws_gTwice_g0 (N : Nat) (self : Geo → Option (Int)) (v2 : Int) (v1 : Geo) (c3 : Int → Option (Int)) (r0 : Int → Int → Option (Int)) (v11 : Int) (v12 : Int) : Option (Int) :=
  (bif (decide ((v12 : Int) < (v1.flat.length : Int))) then ((nth v1.flat (IntKind.i64.wrap (v12 + 1))).bind fun v13 => (floatToIntVal .f64 v13 .i64).bind fun v14 => (nth v1.flat (IntKind.i64.wrap ((IntKind.i64.wrap (v12 - v2)) + 1))).bind fun v15 => (floatToIntVal .f64 v15 .i64).bind fun v16 => (nth v1.flat v12).bind fun v17 => (floatToIntVal .f64 v17 .i64).bind fun v18 => (nth v1.flat (IntKind.i64.wrap (v12 - v2))).bind fun v19 => (floatToIntVal .f64 v19 .i64).bind fun v20 => ((r0 (IntKind.i64.wrap (v11 + (IntKind.i64.wrap ((IntKind.i64.wrap (v14 - v16)) * (IntKind.i64.wrap (v18 + v20)))))) (IntKind.i64.wrap (v12 + v2))))) else (c3 v11))
def laws_gTwice_l0 (N : Nat) (self : Geo → Option (Int)) : Nat → Int → Geo → Int → Int → Option (Int)
  | 0, _, _, _, _ => none
  | n + 1, v2, v1, v11, v12 => laws_gTwice_g0 N self v2 v1 (laws_gTwice_j3 N self) (laws_gTwice_l0 N self n v2 v1) v11 v12
def laws_gTwice_g2 (N : Nat) (self : Geo → Option (Int)) (v22 : ((List Geo) × Unit)) (c3 : Int → Option (Int)) (r2 : Int → Int → Option (Int)) (v26 : Int) (v27 : Int) : Option (Int) :=
  (bif (decide ((v27 : Int) < (v22.1.length : Int))) then ((chk v27 v22.1.length).bind fun v28 => (v22.1[v28]?).bind fun v29 => ((self (Geo.mk v29.kind v29.layout v29.srid v29.flat v29.ends v29.endss v29.kids)).bind fun v30 => ((r2 (IntKind.i64.wrap (v26 + v30)) (IntKind.i64.wrap (v27 + 1)))))) else (c3 v26))
def laws_gTwice_l2 (N : Nat) (self : Geo → Option (Int)) : Nat → ((List Geo) × Unit) → Int → Int → Option (Int)
  | 0, _, _, _ => none
  | n + 1, v22, v26, v27 => laws_gTwice_g2 N self v22 (laws_gTwice_j3 N self) (laws_gTwice_l2 N self n v22) v26 v27
def laws_gTwice_g1 (N : Nat) (self : Geo → Option (Int)) (v1 : Geo) (c2 : ((List Geo) × Unit) → Int → Int → Option (Int)) (c3 : Int → Option (Int)) (v21 : Bool) : Option (Int) :=
  bif v21 then ((spec_Parts N (Geo.mk v1.kind v1.layout v1.srid v1.flat v1.ends v1.endss v1.kids)).bind fun v22 => ((c2 v22 0 0))) else (c3 0)
def laws_gTwice_j1 (N : Nat) (self : Geo → Option (Int)) (v1 : Geo) (v21 : Bool) : Option (Int) :=
  gate N (laws_gTwice_g1 N self v1 (laws_gTwice_l2 N self N) (laws_gTwice_j3 N self) v21)
def laws_gTwice_g (N : Nat) (self : Geo → Option (Int)) (v1 : Geo) (c0 : Int → Geo → Int → Int → Option (Int)) (c1 : Geo → Bool → Option (Int)) : Option (Int) :=
  (bif (v1.kind == 8) then ((spec_Stride N v1.layout).bind fun v2 => ((c0 v2 v1 0 v2))) else (bif (v1.kind == 3) then (c1 v1 (v1.kind == 3)) else (c1 v1 (v1.kind == 6))))
def laws_gTwice (N : Nat) : Nat → Geo → Option (Int)
  | 0, _ => none
  | d + 1, v1 => laws_gTwice_g N (laws_gTwice N d) v1 (laws_gTwice_l0 N (laws_gTwice N d) N) (laws_gTwice_j1 N (laws_gTwice N d))
noncomputable def laws_gTwice_con' (N : Nat) (d : Nat) : Con := ⟨25, [.k .geo], [(.int .i64)], fun x => laws_gTwice N d x.1⟩
noncomputable def laws_gTwice_E (N : Nat) (d : Nat) : Env := ⟨Try.prog, N, [laws_gTwice_con' N d, spec_Stride_con N], [(0, ⟨[], [], [0], [], none⟩), (1, ⟨[], [], [1], [1], none⟩), (2, ⟨[], [], [1, 3], [1], none⟩), (3, ⟨[], [], [1, 3, 9], [1], none⟩), (4, ⟨[], [], [1, 3, 9, 10], [1], none⟩), (5, ⟨[], [], [1, 3, 4], [1], none⟩), (6, ⟨[], [], [1, 3, 4, 5], [1], none⟩), (7, ⟨[], [], [1, 3, 4, 5], [1], none⟩), (8, ⟨[], [], [1, 3, 4, 5], [1], none⟩), (10, ⟨[], [], [1, 3, 9, 59], [1], none⟩), (11, ⟨[], [], [1, 3, 59], [1], some N⟩), (12, ⟨[], [], [3, 63, 64, 65], [103150], none⟩), (13, ⟨[], [], [3, 63, 64, 65], [103150], none⟩), (14, ⟨[], [], [3, 7, 63, 64, 65], [7, 103150], none⟩), (15, ⟨[], [], [3, 63, 64, 65], [103150], none⟩), (16, ⟨[], [], [3], [], some N⟩)], kdL [], [spec_Parts_con N]⟩
set_option maxRecDepth 100000
noncomputable def laws_gTwice_e3 (N : Nat) (d : Nat) (v31 : Int) : Option (HR [(.int .i64)]) :=
  gate N (evC (laws_gTwice_E N d) (codeAt (bodyOf Try.f25) [1, 1, 1]) ⟨[(3, .pv (.int .i64) v31)], [], []⟩ (kEnd (laws_gTwice_E N d) [] Try.f25.results.toList [(.int .i64)]))
noncomputable def laws_gTwice_e0 (N : Nat) (d : Nat) (n : Nat) (v2 : Int) (v1 : Geo) (v11 : Int) (v12 : Int) : Option (HR [(.int .i64)]) :=
  loopN (advOf (laws_gTwice_E N d) (codeAt (bodyOf Try.f25) [1, 1, 0, 1, 0, 1, 0, 1, 1, 0, 0])) (evC (laws_gTwice_E N d) (codeAt (bodyOf Try.f25) [1, 1, 0, 1, 0, 1, 0, 1, 1, 0, 0])) n ⟨[(1, .ref 1 0), (3, .pv (.int .i64) v11), (4, .pv (.int .i64) v2), (5, .pv (.int .i64) v12)], [(1, .box [.pv (.int .i64) v1.kind, .pv (.int .i64) v1.layout, .pv (.int .i64) v1.srid, .pv (.list .float) v1.flat, .pv (.list (.int .i64)) v1.ends, .pv (.list (.list (.int .i64))) v1.endss, .pv (.list .geo) v1.kids])], []⟩ (kBlock 1 (kBlock 0 (kSeq (advOf (laws_gTwice_E N d) (codeAt (bodyOf Try.f25) [1, 1, 1])) (evC (laws_gTwice_E N d) (codeAt (bodyOf Try.f25) [1, 1, 1])) (kEnd (laws_gTwice_E N d) [] Try.f25.results.toList [(.int .i64)]))))
noncomputable def laws_gTwice_e2 (N : Nat) (d : Nat) (n : Nat) (v22 : ((List Geo) × Unit)) (v26 : Int) (v27 : Int) : Option (HR [(.int .i64)]) :=
  loopN (advOf (laws_gTwice_E N d) (codeAt (bodyOf Try.f25) [1, 1, 0, 1, 0, 1, 1, 1, 0, 1, 0, 0])) (evC (laws_gTwice_E N d) (codeAt (bodyOf Try.f25) [1, 1, 0, 1, 0, 1, 1, 1, 0, 1, 0, 0])) n ⟨[(3, .pv (.int .i64) v26), (63, .own .geo 103150), (64, .pv (.int .i64) (v22.1.length : Int)), (65, .pv (.int .i64) v27)], [(103150, .arr 48 .geo v22.1)], []⟩ (kBlock 3 (kBlock 0 (kSeq (advOf (laws_gTwice_E N d) (codeAt (bodyOf Try.f25) [1, 1, 1])) (evC (laws_gTwice_E N d) (codeAt (bodyOf Try.f25) [1, 1, 1])) (kEnd (laws_gTwice_E N d) [] Try.f25.results.toList [(.int .i64)]))))
noncomputable def laws_gTwice_e1 (N : Nat) (d : Nat) (v1 : Geo) (v21 : Bool) : Option (HR [(.int .i64)]) :=
  gate N (evC (laws_gTwice_E N d) (codeAt (bodyOf Try.f25) [1, 1, 0, 1, 0, 1, 1, 1]) ⟨[(1, .ref 1 0), (3, .pv (.int .i64) 0), (59, .pv .bool v21)], [(1, .box [.pv (.int .i64) v1.kind, .pv (.int .i64) v1.layout, .pv (.int .i64) v1.srid, .pv (.list .float) v1.flat, .pv (.list (.int .i64)) v1.ends, .pv (.list (.list (.int .i64))) v1.endss, .pv (.list .geo) v1.kids])], []⟩ (kBlock 0 (kSeq (advOf (laws_gTwice_E N d) (codeAt (bodyOf Try.f25) [1, 1, 1])) (evC (laws_gTwice_E N d) (codeAt (bodyOf Try.f25) [1, 1, 1])) (kEnd (laws_gTwice_E N d) [] Try.f25.results.toList [(.int .i64)]))))
theorem laws_gTwice_t3 (N : Nat) (d : Nat) (v31 : Int) : laws_gTwice_e3 N d v31 = laws_gTwice_j3 N (laws_gTwice N d) v31 := by
  exact (congrArg (gate N) (show evC (laws_gTwice_E N d) (codeAt (bodyOf Try.f25) [1, 1, 1]) ⟨[(3, .pv (.int .i64) v31)], [], []⟩ (kEnd (laws_gTwice_E N d) [] Try.f25.results.toList [(.int .i64)]) = laws_gTwice_g3 N (laws_gTwice N d) v31 from by kernel_rfl)).trans (by rfl)
theorem laws_gTwice_t0 (N : Nat) (d : Nat) : ∀ (n : Nat) (v2 : Int) (v1 : Geo) (v11 : Int) (v12 : Int), laws_gTwice_e0 N d n v2 v1 v11 v12 = laws_gTwice_l0 N (laws_gTwice N d) n v2 v1 v11 v12
  | 0, _, _, _, _ => rfl
  | n + 1, v2, v1, v11, v12 => by
    have h3 : (laws_gTwice_e3 N d) = (laws_gTwice_j3 N (laws_gTwice N d)) := by funext v31; exact laws_gTwice_t3 N d v31
    have h : laws_gTwice_e0 N d n v2 v1 = laws_gTwice_l0 N (laws_gTwice N d) n v2 v1 := by funext v11 v12; exact laws_gTwice_t0 N d n v2 v1 v11 v12
    exact (show laws_gTwice_e0 N d (n + 1) v2 v1 v11 v12 = laws_gTwice_g0 N (laws_gTwice N d) v2 v1 (laws_gTwice_e3 N d) (laws_gTwice_e0 N d n v2 v1) v11 v12 from by kernel_rfl).trans (by rw [h3, h]; rfl)
theorem laws_gTwice_t2 (N : Nat) (d : Nat) : ∀ (n : Nat) (v22 : ((List Geo) × Unit)) (v26 : Int) (v27 : Int), laws_gTwice_e2 N d n v22 v26 v27 = laws_gTwice_l2 N (laws_gTwice N d) n v22 v26 v27
  | 0, _, _, _ => rfl
  | n + 1, v22, v26, v27 => by
    have h3 : (laws_gTwice_e3 N d) = (laws_gTwice_j3 N (laws_gTwice N d)) := by funext v31; exact laws_gTwice_t3 N d v31
    have h : laws_gTwice_e2 N d n v22 = laws_gTwice_l2 N (laws_gTwice N d) n v22 := by funext v26 v27; exact laws_gTwice_t2 N d n v22 v26 v27
    exact (show laws_gTwice_e2 N d (n + 1) v22 v26 v27 = laws_gTwice_g2 N (laws_gTwice N d) v22 (laws_gTwice_e3 N d) (laws_gTwice_e2 N d n v22) v26 v27 from by kernel_rfl).trans (by rw [h3, h]; rfl)
theorem laws_gTwice_t1 (N : Nat) (d : Nat) (v1 : Geo) (v21 : Bool) : laws_gTwice_e1 N d v1 v21 = laws_gTwice_j1 N (laws_gTwice N d) v1 v21 := by
  have h2 : (laws_gTwice_e2 N d N) = (laws_gTwice_l2 N (laws_gTwice N d) N) := by funext v22 v26 v27; exact laws_gTwice_t2 N d N v22 v26 v27
  have h3 : (laws_gTwice_e3 N d) = (laws_gTwice_j3 N (laws_gTwice N d)) := by funext v31; exact laws_gTwice_t3 N d v31
  exact (congrArg (gate N) (show evC (laws_gTwice_E N d) (codeAt (bodyOf Try.f25) [1, 1, 0, 1, 0, 1, 1, 1]) ⟨[(1, .ref 1 0), (3, .pv (.int .i64) 0), (59, .pv .bool v21)], [(1, .box [.pv (.int .i64) v1.kind, .pv (.int .i64) v1.layout, .pv (.int .i64) v1.srid, .pv (.list .float) v1.flat, .pv (.list (.int .i64)) v1.ends, .pv (.list (.list (.int .i64))) v1.endss, .pv (.list .geo) v1.kids])], []⟩ (kBlock 0 (kSeq (advOf (laws_gTwice_E N d) (codeAt (bodyOf Try.f25) [1, 1, 1])) (evC (laws_gTwice_E N d) (codeAt (bodyOf Try.f25) [1, 1, 1])) (kEnd (laws_gTwice_E N d) [] Try.f25.results.toList [(.int .i64)]))) = laws_gTwice_g1 N (laws_gTwice N d) v1 (laws_gTwice_e2 N d N) (laws_gTwice_e3 N d) v21 from by kernel_rfl)).trans (by rw [h2, h3]; rfl)
theorem laws_gTwice_t (N : Nat) (d : Nat) (v1 : Geo) : evF (laws_gTwice_E N d) [] Try.f25 [.k .geo] [(.int .i64)] (v1, ()) = laws_gTwice N (d + 1) v1 := by
  have h0 : (laws_gTwice_e0 N d N) = (laws_gTwice_l0 N (laws_gTwice N d) N) := by funext v2 v1 v11 v12; exact laws_gTwice_t0 N d N v2 v1 v11 v12
  have h1 : (laws_gTwice_e1 N d) = (laws_gTwice_j1 N (laws_gTwice N d)) := by funext v1 v21; exact laws_gTwice_t1 N d v1 v21
  exact (show evF (laws_gTwice_E N d) [] Try.f25 [.k .geo] [(.int .i64)] (v1, ()) = laws_gTwice_g N (laws_gTwice N d) v1 (laws_gTwice_e0 N d N) (laws_gTwice_e1 N d) from by kernel_rfl).trans (by rw [h0, h1]; rfl)
theorem laws_gTwice_s' (N : Nat) : ∀ d, (laws_gTwice_con' N d).Sound Try.prog
  | 0 => fun _ _ _ _ _ _ _ h => by cases h
  | d + 1 => Con.sound_of (c := laws_gTwice_con' N (d + 1)) (E := (laws_gTwice_E N d)) (idle := []) Try.func25 (by kernel_rfl) (by kernel_rfl) ⟨(allCons (laws_gTwice_s' N d) (allCons (spec_Stride_s N) allNil)), (allCons (spec_Parts_s N) allNil)⟩ allNil (fun x y h => (laws_gTwice_t N d x.1).trans h)
noncomputable def laws_gTwice_con (N : Nat) : Con := laws_gTwice_con' N N
theorem laws_gTwice_s (N : Nat) : (laws_gTwice_con N).Sound Try.prog := laws_gTwice_s' N N
/-- pub-orthodrome/laws.FnDoubleArea3 -/
noncomputable def laws_FnDoubleArea3_E (N : Nat) : Env := ⟨Try.prog, N, [laws_zzFits3_con N, laws_fRowss_con N, laws_gHollow_con N, laws_gEach_b_con N, impl_DoubleArea3_con N, laws_gTwice_con N], [(0, ⟨[], [], [0, 1, 2], [], none⟩), (1, ⟨[], [], [0, 1, 2], [], none⟩), (2, ⟨[], [], [0, 1, 2, 18], [], none⟩), (3, ⟨[], [], [0, 1, 2], [], none⟩), (4, ⟨[], [], [0, 1, 2, 7, 8], [7], none⟩), (5, ⟨[], [], [0, 1, 2, 7, 36], [7], some N⟩), (6, ⟨[], [], [0, 1, 2, 7], [7], none⟩), (7, ⟨[], [], [7, 9, 10], [7], none⟩)], kdL [], []⟩
def laws_FnDoubleArea3_g0 (N : Nat) (v1 : (List Nat)) (v2 : (List (List Int))) (v3 : Int) (v5 : (Geo × Bool)) : Option (Bool) :=
  (some true)
def laws_FnDoubleArea3_j0 (N : Nat) (v1 : (List Nat)) (v2 : (List (List Int))) (v3 : Int) (v5 : (Geo × Bool)) : Option (Bool) :=
  gate N (laws_FnDoubleArea3_g0 N v1 v2 v3 v5)
def laws_FnDoubleArea3_g (N : Nat) (v1 : (List Nat)) (v2 : (List (List Int))) (v3 : Int) (c0 : (List Nat) → (List (List Int)) → Int → (Geo × Bool) → Option (Bool)) : Option (Bool) :=
  (bif (decide (((v1.length : Int) : Int) > 2147483647)) then (some true) else ((laws_zzFits3 N v2).bind fun v4 => (bif (!v4) then (some true) else ((laws_fRowss N v1 v2 v3).bind fun v5 => (bif (!v5.2) then (c0 v1 v2 v3 v5) else ((laws_gHollow N (Geo.mk v5.1.kind v5.1.layout v5.1.srid v5.1.flat v5.1.ends v5.1.endss v5.1.kids)).bind fun v6 => bif v6 then (c0 v1 v2 v3 v5) else ((laws_gEach_b N N (Geo.mk v5.1.kind v5.1.layout v5.1.srid v5.1.flat v5.1.ends v5.1.endss v5.1.kids)).bind fun v7 => (gate N (bif (!v7) then (some true) else ((impl_DoubleArea3 N v1 v2 v3).bind fun v8 => (bif v8.2 then ((laws_gTwice N N (Geo.mk v5.1.kind v5.1.layout v5.1.srid v5.1.flat v5.1.ends v5.1.endss v5.1.kids)).bind fun v9 => (some (feq v8.1 (i2f v9)))) else (some false))))))))))))
def laws_FnDoubleArea3 (N : Nat) (v1 : (List Nat)) (v2 : (List (List Int))) (v3 : Int) : Option (Bool) :=
  laws_FnDoubleArea3_g N v1 v2 v3 (laws_FnDoubleArea3_j0 N)
set_option maxRecDepth 100000
noncomputable def laws_FnDoubleArea3_e0 (N : Nat) (v1 : (List Nat)) (v2 : (List (List Int))) (v3 : Int) (v5 : (Geo × Bool)) : Option (HR [.bool]) :=
  gate N (evC (laws_FnDoubleArea3_E N) (codeAt (bodyOf Try.f5) [1, 1, 1, 0, 1]) ⟨[(0, .pv (.list .float) v1), (1, .pv (.list (.list (.int .i64))) v2), (2, .pv (.int .i64) v3), (7, .ref 7 0), (36, .pv .bool true)], [(7, .box [.pv (.int .i64) v5.1.kind, .pv (.int .i64) v5.1.layout, .pv (.int .i64) v5.1.srid, .pv (.list .float) v5.1.flat, .pv (.list (.int .i64)) v5.1.ends, .pv (.list (.list (.int .i64))) v5.1.endss, .pv (.list .geo) v5.1.kids])], []⟩ (kSeq (advOf (laws_FnDoubleArea3_E N) (codeAt (bodyOf Try.f5) [1, 1, 1, 1])) (evC (laws_FnDoubleArea3_E N) (codeAt (bodyOf Try.f5) [1, 1, 1, 1])) (kEnd (laws_FnDoubleArea3_E N) [] Try.f5.results.toList [.bool])))
theorem laws_FnDoubleArea3_t0 (N : Nat) (v1 : (List Nat)) (v2 : (List (List Int))) (v3 : Int) (v5 : (Geo × Bool)) : laws_FnDoubleArea3_e0 N v1 v2 v3 v5 = laws_FnDoubleArea3_j0 N v1 v2 v3 v5 := by
  exact (congrArg (gate N) (show evC (laws_FnDoubleArea3_E N) (codeAt (bodyOf Try.f5) [1, 1, 1, 0, 1]) ⟨[(0, .pv (.list .float) v1), (1, .pv (.list (.list (.int .i64))) v2), (2, .pv (.int .i64) v3), (7, .ref 7 0), (36, .pv .bool true)], [(7, .box [.pv (.int .i64) v5.1.kind, .pv (.int .i64) v5.1.layout, .pv (.int .i64) v5.1.srid, .pv (.list .float) v5.1.flat, .pv (.list (.int .i64)) v5.1.ends, .pv (.list (.list (.int .i64))) v5.1.endss, .pv (.list .geo) v5.1.kids])], []⟩ (kSeq (advOf (laws_FnDoubleArea3_E N) (codeAt (bodyOf Try.f5) [1, 1, 1, 1])) (evC (laws_FnDoubleArea3_E N) (codeAt (bodyOf Try.f5) [1, 1, 1, 1])) (kEnd (laws_FnDoubleArea3_E N) [] Try.f5.results.toList [.bool])) = laws_FnDoubleArea3_g0 N v1 v2 v3 v5 from by kernel_rfl)).trans (by rfl)
theorem laws_FnDoubleArea3_t (N : Nat) (v1 : (List Nat)) (v2 : (List (List Int))) (v3 : Int) : evF (laws_FnDoubleArea3_E N) [] Try.f5 [.k (.list .float), .k (.list (.list (.int .i64))), .k (.int .i64)] [.bool] (v1, v2, v3, ()) = laws_FnDoubleArea3 N v1 v2 v3 := by
  have h0 : (laws_FnDoubleArea3_e0 N) = (laws_FnDoubleArea3_j0 N) := by funext v1 v2 v3 v5; exact laws_FnDoubleArea3_t0 N v1 v2 v3 v5
  exact (show evF (laws_FnDoubleArea3_E N) [] Try.f5 [.k (.list .float), .k (.list (.list (.int .i64))), .k (.int .i64)] [.bool] (v1, v2, v3, ()) = laws_FnDoubleArea3_g N v1 v2 v3 (laws_FnDoubleArea3_e0 N) from by kernel_rfl).trans (by rw [h0]; rfl)
noncomputable def laws_FnDoubleArea3_con (N : Nat) : Con := ⟨5, [.k (.list .float), .k (.list (.list (.int .i64))), .k (.int .i64)], [.bool], fun x => laws_FnDoubleArea3 N x.1 x.2.1 x.2.2.1⟩
theorem laws_FnDoubleArea3_s (N : Nat) : (laws_FnDoubleArea3_con N).Sound Try.prog :=
  Con.sound_of (c := laws_FnDoubleArea3_con N) (E := (laws_FnDoubleArea3_E N)) (idle := []) Try.func5 (by kernel_rfl) (by kernel_rfl) ⟨(allCons (laws_zzFits3_s N) (allCons (laws_fRowss_s N) (allCons (laws_gHollow_s N) (allCons (laws_gEach_b_s N) (allCons (impl_DoubleArea3_s N) (allCons (laws_gTwice_s N) allNil)))))), allNil⟩ allNil (fun x y h => (laws_FnDoubleArea3_t N x.1 x.2.1 x.2.2.1).trans h)
end Go.Proofs.Ytgipjhgnnppjgaa.FA
