import Derived.Test.YtfhplocmlmmnoaaProg
import Derived.Test.YtfhplocmlmmnoaaAv16
import Derived.Test.YtfhplocmlmmnoaaAv19
import Derived.Test.YtfhplocmlmmnoaaAv20
import Derived.Test.YtfhplocmlmmnoaaAv21
import Derived.Test.YtfhplocmlmmnoaaAv25
import Derived.KernelRfl
set_option linter.unusedVariables false
namespace Go.Proofs.Ytfhplocmlmmnoaa.G9
open Go Go.Av
/-- pub-orthodrome/spec.Stride -/
noncomputable def spec_Stride_E (N : Nat) : Env := ⟨Try.prog, N, [], [(0, ⟨[], [], [0], [], none⟩), (1, ⟨[], [], [0], [], none⟩), (2, ⟨[], [], [0, 3], [], none⟩), (4, ⟨[], [], [0, 6], [], none⟩), (6, ⟨[], [], [0, 9], [], none⟩), (7, ⟨[], [], [0], [], none⟩)], kdL [], []⟩
def spec_Stride_g (N : Nat) (v1 : Int) : Option (Int) :=
  (bif (decide ((v1 : Int) < 1)) then (some 0) else (bif (v1 == 1) then (some 2) else (bif (v1 == 2) then (some 3) else (bif (v1 == 3) then (some 3) else (some v1)))))
def spec_Stride (N : Nat) (v1 : Int) : Option (Int) :=
  spec_Stride_g N v1
set_option maxRecDepth 100000
theorem spec_Stride_t (N : Nat) (v1 : Int) : evF (spec_Stride_E N) [] Try.f34 [.k (.int .i64)] [(.int .i64)] (v1, ()) = spec_Stride N v1 := by
  exact (show evF (spec_Stride_E N) [] Try.f34 [.k (.int .i64)] [(.int .i64)] (v1, ()) = spec_Stride_g N v1 from by kernel_rfl).trans (by rfl)
noncomputable def spec_Stride_con (N : Nat) : Con := ⟨34, [.k (.int .i64)], [(.int .i64)], fun x => spec_Stride N x.1⟩
theorem spec_Stride_s (N : Nat) : (spec_Stride_con N).Sound Try.prog :=
  Con.sound_of (c := spec_Stride_con N) (E := (spec_Stride_E N)) (idle := []) Try.func34 (by kernel_rfl) (by kernel_rfl) ⟨allNil, allNil⟩ allNil (fun x y h => (spec_Stride_t N x.1).trans h)
/-- pub-orthodrome/laws.gCoord -/
noncomputable def laws_gCoord_E (N : Nat) : Env := ⟨Try.prog, N, [spec_Stride_con N], [(0, ⟨[], [], [0, 1], [], none⟩), (1, ⟨[], [], [0, 1], [], none⟩)], kdL [], []⟩
def laws_gCoord_g (N : Nat) (v1 : Int) (v2 : (List Nat)) : Option (Bool) :=
  (bif (decide ((v1 : Int) ≥ 1)) then (bif (decide ((v1 : Int) ≤ 9)) then ((spec_Stride N v1).bind fun v3 => (some ((v2.length : Int) == v3))) else (some false)) else (some false))
def laws_gCoord (N : Nat) (v1 : Int) (v2 : (List Nat)) : Option (Bool) :=
  laws_gCoord_g N v1 v2
set_option maxRecDepth 100000
theorem laws_gCoord_t (N : Nat) (v1 : Int) (v2 : (List Nat)) : evF (laws_gCoord_E N) [] Try.f15 [.k (.int .i64), .k (.list .float)] [.bool] (v1, v2, ()) = laws_gCoord N v1 v2 := by
  exact (show evF (laws_gCoord_E N) [] Try.f15 [.k (.int .i64), .k (.list .float)] [.bool] (v1, v2, ()) = laws_gCoord_g N v1 v2 from by kernel_rfl).trans (by rfl)
noncomputable def laws_gCoord_con (N : Nat) : Con := ⟨15, [.k (.int .i64), .k (.list .float)], [.bool], fun x => laws_gCoord N x.1 x.2.1⟩
theorem laws_gCoord_s (N : Nat) : (laws_gCoord_con N).Sound Try.prog :=
  Con.sound_of (c := laws_gCoord_con N) (E := (laws_gCoord_E N)) (idle := []) Try.func15 (by kernel_rfl) (by kernel_rfl) ⟨(allCons (spec_Stride_s N) allNil), allNil⟩ allNil (fun x y h => (laws_gCoord_t N x.1 x.2.1).trans h)
/-- math.archTrunc -/
def math_archTrunc (N : Nat) (v1 : Nat) : Option Nat := fwhole .zero v1
noncomputable def math_archTrunc_con (N : Nat) : Con := ⟨122, [.k .float], [.float], fun x => math_archTrunc N x.1⟩
theorem math_archTrunc_s (N : Nat) : (math_archTrunc_con N).Sound Try.prog := whole_of (name := "math.archTrunc") Try.func122 (by kernel_rfl) (by kernel_rfl) (by kernel_rfl) (by kernel_rfl)
/-- math.Trunc -/
noncomputable def math_Trunc_E (N : Nat) : Env := ⟨Try.prog, N, [math_archTrunc_con N], [(0, ⟨[], [], [0], [], none⟩), (1, ⟨[], [], [0], [], none⟩), (2, ⟨[], [], [0], [], none⟩)], kdL [], []⟩
def math_Trunc_g (N : Nat) (v1 : Nat) : Option (Nat) :=
  ((math_archTrunc N v1).bind fun v2 => (some v2))
def math_Trunc (N : Nat) (v1 : Nat) : Option (Nat) :=
  math_Trunc_g N v1
set_option maxRecDepth 100000
theorem math_Trunc_t (N : Nat) (v1 : Nat) : evF (math_Trunc_E N) [] Try.f71 [.k .float] [.float] (v1, ()) = math_Trunc N v1 := by
  exact (show evF (math_Trunc_E N) [] Try.f71 [.k .float] [.float] (v1, ()) = math_Trunc_g N v1 from by kernel_rfl).trans (by rfl)
noncomputable def math_Trunc_con (N : Nat) : Con := ⟨71, [.k .float], [.float], fun x => math_Trunc N x.1⟩
theorem math_Trunc_s (N : Nat) : (math_Trunc_con N).Sound Try.prog :=
  Con.sound_of (c := math_Trunc_con N) (E := (math_Trunc_E N)) (idle := []) Try.func71 (by kernel_rfl) (by kernel_rfl) ⟨(allCons (math_archTrunc_s N) allNil), allNil⟩ allNil (fun x y h => (math_Trunc_t N x.1).trans h)
/-- pub-orthodrome/laws.gWhole -/
noncomputable def laws_gWhole_E (N : Nat) : Env := ⟨Try.prog, N, [math_Trunc_con N], [(0, ⟨[], [], [0], [], none⟩), (1, ⟨[], [], [0], [], none⟩)], kdL [], []⟩
def laws_gWhole_g (N : Nat) (v1 : Nat) : Option (Bool) :=
  (bif (fge v1 13920626448202203136) then (bif (fle v1 4697254411347427328) then ((math_Trunc N v1).bind fun v2 => (some (feq v1 v2))) else (some false)) else (some false))
def laws_gWhole (N : Nat) (v1 : Nat) : Option (Bool) :=
  laws_gWhole_g N v1
set_option maxRecDepth 100000
theorem laws_gWhole_t (N : Nat) (v1 : Nat) : evF (laws_gWhole_E N) [] Try.f33 [.k .float] [.bool] (v1, ()) = laws_gWhole N v1 := by
  exact (show evF (laws_gWhole_E N) [] Try.f33 [.k .float] [.bool] (v1, ()) = laws_gWhole_g N v1 from by kernel_rfl).trans (by rfl)
noncomputable def laws_gWhole_con (N : Nat) : Con := ⟨33, [.k .float], [.bool], fun x => laws_gWhole N x.1⟩
theorem laws_gWhole_s (N : Nat) : (laws_gWhole_con N).Sound Try.prog :=
  Con.sound_of (c := laws_gWhole_con N) (E := (laws_gWhole_E N)) (idle := []) Try.func33 (by kernel_rfl) (by kernel_rfl) ⟨(allCons (math_Trunc_s N) allNil), allNil⟩ allNil (fun x y h => (laws_gWhole_t N x.1).trans h)
/-- pub-orthodrome/impl.floats -/
noncomputable def impl_floats_E (N : Nat) : Env := ⟨Try.prog, N, [], [(0, ⟨[], [], [0], [], none⟩), (1, ⟨[], [], [0], [], none⟩)], kdL [(35, .float)], []⟩
def impl_floats_g (N : Nat) (v1 : (List Nat)) : Option (((List Nat) × Unit)) :=
  ((lim (v1.length * 8)).bind fun _ => (some (v1, ())))
def impl_floats (N : Nat) (v1 : (List Nat)) : Option (((List Nat) × Unit)) :=
  impl_floats_g N v1
set_option maxRecDepth 100000
theorem impl_floats_t (N : Nat) (v1 : (List Nat)) : evF2 (impl_floats_E N) [] Try.f67 [.k (.list .float)] [⟨[.row 35 .float], [none]⟩] (v1, ()) = impl_floats N v1 := by
  exact (show evF2 (impl_floats_E N) [] Try.f67 [.k (.list .float)] [⟨[.row 35 .float], [none]⟩] (v1, ()) = impl_floats_g N v1 from by kernel_rfl).trans (by rfl)
noncomputable def impl_floats_con (N : Nat) : Con2 := ⟨67, [.k (.list .float)], [⟨[.row 35 .float], [none]⟩], fun x => impl_floats N x.1⟩
theorem impl_floats_s (N : Nat) : (impl_floats_con N).Sound Try.prog :=
  Con2.sound_of (c := impl_floats_con N) (E := (impl_floats_E N)) (idle := []) Try.func67 (by kernel_rfl) (by kernel_rfl) ⟨allNil, allNil⟩ allNil (fun x y h => (impl_floats_t N x.1).trans h)
/-- (pub-orthodrome/pub/gogeom.Layout).Stride -/
noncomputable def gogeom_Layout_Stride_E (N : Nat) : Env := ⟨Try.prog, N, [], [(0, ⟨[], [], [0], [], none⟩), (1, ⟨[], [], [0], [], none⟩), (3, ⟨[], [], [0, 3], [], none⟩), (4, ⟨[], [], [0, 3, 5], [], none⟩), (6, ⟨[], [], [0, 3, 7], [], none⟩), (8, ⟨[], [], [0, 3, 9], [], none⟩), (10, ⟨[], [], [0, 3, 11], [], none⟩), (12, ⟨[], [], [0, 13], [], none⟩)], kdL [], []⟩
def gogeom_Layout_Stride_g (N : Nat) (v1 : Int) : Option (Int) :=
  (bif (v1 == 0) then (some 0) else (bif (v1 == 1) then (some 2) else (bif (v1 == 2) then (some 3) else (bif (v1 == 3) then (some 3) else (bif (v1 == 4) then (some 4) else (some v1))))))
def gogeom_Layout_Stride (N : Nat) (v1 : Int) : Option (Int) :=
  gogeom_Layout_Stride_g N v1
set_option maxRecDepth 100000
theorem gogeom_Layout_Stride_t (N : Nat) (v1 : Int) : evF (gogeom_Layout_Stride_E N) [] Try.f90 [.k (.int .i64)] [(.int .i64)] (v1, ()) = gogeom_Layout_Stride N v1 := by
  exact (show evF (gogeom_Layout_Stride_E N) [] Try.f90 [.k (.int .i64)] [(.int .i64)] (v1, ()) = gogeom_Layout_Stride_g N v1 from by kernel_rfl).trans (by rfl)
noncomputable def gogeom_Layout_Stride_con (N : Nat) : Con := ⟨90, [.k (.int .i64)], [(.int .i64)], fun x => gogeom_Layout_Stride N x.1⟩
theorem gogeom_Layout_Stride_s (N : Nat) : (gogeom_Layout_Stride_con N).Sound Try.prog :=
  Con.sound_of (c := gogeom_Layout_Stride_con N) (E := (gogeom_Layout_Stride_E N)) (idle := []) Try.func90 (by kernel_rfl) (by kernel_rfl) ⟨allNil, allNil⟩ allNil (fun x y h => (gogeom_Layout_Stride_t N x.1).trans h)
/-- pub-orthodrome/pub/gogeom.NewPointFlat -/
noncomputable def gogeom_NewPointFlat_b_E (N : Nat) : Env := ⟨Try.prog, N, [gogeom_Layout_Stride_con N], [(0, ⟨[], [], [0, 1], [1000000], none⟩), (1, ⟨[], [], [0, 1], [1000000], none⟩), (2, ⟨[], [], [0, 1, 5], [6, 1000000], none⟩), (3, ⟨[], [], [0, 1, 5], [6, 1000000], none⟩), (4, ⟨[], [], [1, 5], [6, 1000000], none⟩), (5, ⟨[], [], [5], [6, 1000000], none⟩)], kdL [], []⟩
def gogeom_NewPointFlat_b_g (N : Nat) (v1 : Int) (v2 : (List Nat)) : Option (((Int × Int × (List Nat) × Int × Unit) × Unit)) :=
  ((gogeom_Layout_Stride N v1).bind fun v3 => (some ((v1, v3, v2, 0, ()), ())))
def gogeom_NewPointFlat_b (N : Nat) (v1 : Int) (v2 : (List Nat)) : Option (((Int × Int × (List Nat) × Int × Unit) × Unit)) :=
  gogeom_NewPointFlat_b_g N v1 v2
set_option maxRecDepth 100000
theorem gogeom_NewPointFlat_b_t (N : Nat) (v1 : Int) (v2 : (List Nat)) : evF2 (gogeom_NewPointFlat_b_E N) [] Try.f105 [.k (.int .i64), .row 35 .float] [⟨[.box [.k (.int .i64), .k (.int .i64), .row 35 .float, .k (.int .i64)]], [none, none]⟩] (v1, v2, ()) = gogeom_NewPointFlat_b N v1 v2 := by
  exact (show evF2 (gogeom_NewPointFlat_b_E N) [] Try.f105 [.k (.int .i64), .row 35 .float] [⟨[.box [.k (.int .i64), .k (.int .i64), .row 35 .float, .k (.int .i64)]], [none, none]⟩] (v1, v2, ()) = gogeom_NewPointFlat_b_g N v1 v2 from by kernel_rfl).trans (by rfl)
noncomputable def gogeom_NewPointFlat_b_con (N : Nat) : Con2 := ⟨105, [.k (.int .i64), .row 35 .float], [⟨[.box [.k (.int .i64), .k (.int .i64), .row 35 .float, .k (.int .i64)]], [none, none]⟩], fun x => gogeom_NewPointFlat_b N x.1 x.2.1⟩
theorem gogeom_NewPointFlat_b_s (N : Nat) : (gogeom_NewPointFlat_b_con N).Sound Try.prog :=
  Con2.sound_of (c := gogeom_NewPointFlat_b_con N) (E := (gogeom_NewPointFlat_b_E N)) (idle := []) Try.func105 (by kernel_rfl) (by kernel_rfl) ⟨(allCons (gogeom_Layout_Stride_s N) allNil), allNil⟩ allNil (fun x y h => (gogeom_NewPointFlat_b_t N x.1 x.2.1).trans h)
/-- (*pub-orthodrome/pub/gogeom.Point).SetSRID -/
noncomputable def gogeom_Point_SetSRID_E (N : Nat) : Env := ⟨Try.prog, N, [], [(0, ⟨[], [], [0, 1], [1000000, 1000001], none⟩), (1, ⟨[], [], [0, 1], [1000000, 1000001], none⟩), (2, ⟨[], [], [0], [1000000, 1000001], none⟩)], kdL [], []⟩
def gogeom_Point_SetSRID_g (N : Nat) (v1 : (Int × Int × (List Nat) × Int × Unit)) (v2 : Int) : Option ((Unit × (Int × Int × (List Nat) × Int × Unit) × Unit)) :=
  (some ((), (v1.1, v1.2.1, v1.2.2.1, v2, ()), ()))
def gogeom_Point_SetSRID (N : Nat) (v1 : (Int × Int × (List Nat) × Int × Unit)) (v2 : Int) : Option ((Unit × (Int × Int × (List Nat) × Int × Unit) × Unit)) :=
  gogeom_Point_SetSRID_g N v1 v2
set_option maxRecDepth 100000
theorem gogeom_Point_SetSRID_t (N : Nat) (v1 : (Int × Int × (List Nat) × Int × Unit)) (v2 : Int) : evF2 (gogeom_Point_SetSRID_E N) [] Try.f106 [.box [.k (.int .i64), .k (.int .i64), .row 35 .float, .k (.int .i64)], .k (.int .i64)] [⟨[.par 0], [some (.box [.k (.int .i64), .k (.int .i64), .row 35 .float, .k (.int .i64)]), none]⟩] (v1, v2, ()) = gogeom_Point_SetSRID N v1 v2 := by
  exact (show evF2 (gogeom_Point_SetSRID_E N) [] Try.f106 [.box [.k (.int .i64), .k (.int .i64), .row 35 .float, .k (.int .i64)], .k (.int .i64)] [⟨[.par 0], [some (.box [.k (.int .i64), .k (.int .i64), .row 35 .float, .k (.int .i64)]), none]⟩] (v1, v2, ()) = gogeom_Point_SetSRID_g N v1 v2 from by kernel_rfl).trans (by rfl)
noncomputable def gogeom_Point_SetSRID_con (N : Nat) : Con2 := ⟨106, [.box [.k (.int .i64), .k (.int .i64), .row 35 .float, .k (.int .i64)], .k (.int .i64)], [⟨[.par 0], [some (.box [.k (.int .i64), .k (.int .i64), .row 35 .float, .k (.int .i64)]), none]⟩], fun x => gogeom_Point_SetSRID N x.1 x.2.1⟩
theorem gogeom_Point_SetSRID_s (N : Nat) : (gogeom_Point_SetSRID_con N).Sound Try.prog :=
  Con2.sound_of (c := gogeom_Point_SetSRID_con N) (E := (gogeom_Point_SetSRID_E N)) (idle := []) Try.func106 (by kernel_rfl) (by kernel_rfl) ⟨allNil, allNil⟩ allNil (fun x y h => (gogeom_Point_SetSRID_t N x.1 x.2.1).trans h)
/-- pub-orthodrome/pub/gogeom.NewLineStringFlat -/
noncomputable def gogeom_NewLineStringFlat_b_E (N : Nat) : Env := ⟨Try.prog, N, [gogeom_Layout_Stride_con N], [(0, ⟨[], [], [0, 1], [1000000], none⟩), (1, ⟨[], [], [0, 1], [1000000], none⟩), (2, ⟨[], [], [0, 1, 5], [6, 1000000], none⟩), (3, ⟨[], [], [0, 1, 5], [6, 1000000], none⟩), (4, ⟨[], [], [1, 5], [6, 1000000], none⟩), (5, ⟨[], [], [5], [6, 1000000], none⟩)], kdL [], []⟩
def gogeom_NewLineStringFlat_b_g (N : Nat) (v1 : Int) (v2 : (List Nat)) : Option (((Int × Int × (List Nat) × Int × Unit) × Unit)) :=
  ((gogeom_Layout_Stride N v1).bind fun v3 => (some ((v1, v3, v2, 0, ()), ())))
def gogeom_NewLineStringFlat_b (N : Nat) (v1 : Int) (v2 : (List Nat)) : Option (((Int × Int × (List Nat) × Int × Unit) × Unit)) :=
  gogeom_NewLineStringFlat_b_g N v1 v2
set_option maxRecDepth 100000
theorem gogeom_NewLineStringFlat_b_t (N : Nat) (v1 : Int) (v2 : (List Nat)) : evF2 (gogeom_NewLineStringFlat_b_E N) [] Try.f93 [.k (.int .i64), .row 35 .float] [⟨[.box [.k (.int .i64), .k (.int .i64), .row 35 .float, .k (.int .i64)]], [none, none]⟩] (v1, v2, ()) = gogeom_NewLineStringFlat_b N v1 v2 := by
  exact (show evF2 (gogeom_NewLineStringFlat_b_E N) [] Try.f93 [.k (.int .i64), .row 35 .float] [⟨[.box [.k (.int .i64), .k (.int .i64), .row 35 .float, .k (.int .i64)]], [none, none]⟩] (v1, v2, ()) = gogeom_NewLineStringFlat_b_g N v1 v2 from by kernel_rfl).trans (by rfl)
noncomputable def gogeom_NewLineStringFlat_b_con (N : Nat) : Con2 := ⟨93, [.k (.int .i64), .row 35 .float], [⟨[.box [.k (.int .i64), .k (.int .i64), .row 35 .float, .k (.int .i64)]], [none, none]⟩], fun x => gogeom_NewLineStringFlat_b N x.1 x.2.1⟩
theorem gogeom_NewLineStringFlat_b_s (N : Nat) : (gogeom_NewLineStringFlat_b_con N).Sound Try.prog :=
  Con2.sound_of (c := gogeom_NewLineStringFlat_b_con N) (E := (gogeom_NewLineStringFlat_b_E N)) (idle := []) Try.func93 (by kernel_rfl) (by kernel_rfl) ⟨(allCons (gogeom_Layout_Stride_s N) allNil), allNil⟩ allNil (fun x y h => (gogeom_NewLineStringFlat_b_t N x.1 x.2.1).trans h)
/-- (*pub-orthodrome/pub/gogeom.LineString).SetSRID -/
noncomputable def gogeom_LineString_SetSRID_E (N : Nat) : Env := ⟨Try.prog, N, [], [(0, ⟨[], [], [0, 1], [1000000, 1000001], none⟩), (1, ⟨[], [], [0, 1], [1000000, 1000001], none⟩), (2, ⟨[], [], [0], [1000000, 1000001], none⟩)], kdL [], []⟩
def gogeom_LineString_SetSRID_g (N : Nat) (v1 : (Int × Int × (List Nat) × Int × Unit)) (v2 : Int) : Option ((Unit × (Int × Int × (List Nat) × Int × Unit) × Unit)) :=
  (some ((), (v1.1, v1.2.1, v1.2.2.1, v2, ()), ()))
def gogeom_LineString_SetSRID (N : Nat) (v1 : (Int × Int × (List Nat) × Int × Unit)) (v2 : Int) : Option ((Unit × (Int × Int × (List Nat) × Int × Unit) × Unit)) :=
  gogeom_LineString_SetSRID_g N v1 v2
set_option maxRecDepth 100000
theorem gogeom_LineString_SetSRID_t (N : Nat) (v1 : (Int × Int × (List Nat) × Int × Unit)) (v2 : Int) : evF2 (gogeom_LineString_SetSRID_E N) [] Try.f107 [.box [.k (.int .i64), .k (.int .i64), .row 35 .float, .k (.int .i64)], .k (.int .i64)] [⟨[.par 0], [some (.box [.k (.int .i64), .k (.int .i64), .row 35 .float, .k (.int .i64)]), none]⟩] (v1, v2, ()) = gogeom_LineString_SetSRID N v1 v2 := by
  exact (show evF2 (gogeom_LineString_SetSRID_E N) [] Try.f107 [.box [.k (.int .i64), .k (.int .i64), .row 35 .float, .k (.int .i64)], .k (.int .i64)] [⟨[.par 0], [some (.box [.k (.int .i64), .k (.int .i64), .row 35 .float, .k (.int .i64)]), none]⟩] (v1, v2, ()) = gogeom_LineString_SetSRID_g N v1 v2 from by kernel_rfl).trans (by rfl)
noncomputable def gogeom_LineString_SetSRID_con (N : Nat) : Con2 := ⟨107, [.box [.k (.int .i64), .k (.int .i64), .row 35 .float, .k (.int .i64)], .k (.int .i64)], [⟨[.par 0], [some (.box [.k (.int .i64), .k (.int .i64), .row 35 .float, .k (.int .i64)]), none]⟩], fun x => gogeom_LineString_SetSRID N x.1 x.2.1⟩
theorem gogeom_LineString_SetSRID_s (N : Nat) : (gogeom_LineString_SetSRID_con N).Sound Try.prog :=
  Con2.sound_of (c := gogeom_LineString_SetSRID_con N) (E := (gogeom_LineString_SetSRID_E N)) (idle := []) Try.func107 (by kernel_rfl) (by kernel_rfl) ⟨allNil, allNil⟩ allNil (fun x y h => (gogeom_LineString_SetSRID_t N x.1 x.2.1).trans h)
/-- pub-orthodrome/pub/gogeom.NewLinearRingFlat -/
noncomputable def gogeom_NewLinearRingFlat_b_E (N : Nat) : Env := ⟨Try.prog, N, [gogeom_Layout_Stride_con N], [(0, ⟨[], [], [0, 1], [1000000], none⟩), (1, ⟨[], [], [0, 1], [1000000], none⟩), (2, ⟨[], [], [0, 1, 5], [6, 1000000], none⟩), (3, ⟨[], [], [0, 1, 5], [6, 1000000], none⟩), (4, ⟨[], [], [1, 5], [6, 1000000], none⟩), (5, ⟨[], [], [5], [6, 1000000], none⟩)], kdL [], []⟩
def gogeom_NewLinearRingFlat_b_g (N : Nat) (v1 : Int) (v2 : (List Nat)) : Option (((Int × Int × (List Nat) × Int × Unit) × Unit)) :=
  ((gogeom_Layout_Stride N v1).bind fun v3 => (some ((v1, v3, v2, 0, ()), ())))
def gogeom_NewLinearRingFlat_b (N : Nat) (v1 : Int) (v2 : (List Nat)) : Option (((Int × Int × (List Nat) × Int × Unit) × Unit)) :=
  gogeom_NewLinearRingFlat_b_g N v1 v2
set_option maxRecDepth 100000
theorem gogeom_NewLinearRingFlat_b_t (N : Nat) (v1 : Int) (v2 : (List Nat)) : evF2 (gogeom_NewLinearRingFlat_b_E N) [] Try.f95 [.k (.int .i64), .row 35 .float] [⟨[.box [.k (.int .i64), .k (.int .i64), .row 35 .float, .k (.int .i64)]], [none, none]⟩] (v1, v2, ()) = gogeom_NewLinearRingFlat_b N v1 v2 := by
  exact (show evF2 (gogeom_NewLinearRingFlat_b_E N) [] Try.f95 [.k (.int .i64), .row 35 .float] [⟨[.box [.k (.int .i64), .k (.int .i64), .row 35 .float, .k (.int .i64)]], [none, none]⟩] (v1, v2, ()) = gogeom_NewLinearRingFlat_b_g N v1 v2 from by kernel_rfl).trans (by rfl)
noncomputable def gogeom_NewLinearRingFlat_b_con (N : Nat) : Con2 := ⟨95, [.k (.int .i64), .row 35 .float], [⟨[.box [.k (.int .i64), .k (.int .i64), .row 35 .float, .k (.int .i64)]], [none, none]⟩], fun x => gogeom_NewLinearRingFlat_b N x.1 x.2.1⟩
theorem gogeom_NewLinearRingFlat_b_s (N : Nat) : (gogeom_NewLinearRingFlat_b_con N).Sound Try.prog :=
  Con2.sound_of (c := gogeom_NewLinearRingFlat_b_con N) (E := (gogeom_NewLinearRingFlat_b_E N)) (idle := []) Try.func95 (by kernel_rfl) (by kernel_rfl) ⟨(allCons (gogeom_Layout_Stride_s N) allNil), allNil⟩ allNil (fun x y h => (gogeom_NewLinearRingFlat_b_t N x.1 x.2.1).trans h)
/-- (*pub-orthodrome/pub/gogeom.LinearRing).SetSRID -/
noncomputable def gogeom_LinearRing_SetSRID_E (N : Nat) : Env := ⟨Try.prog, N, [], [(0, ⟨[], [], [0, 1], [1000000, 1000001], none⟩), (1, ⟨[], [], [0, 1], [1000000, 1000001], none⟩), (2, ⟨[], [], [0], [1000000, 1000001], none⟩)], kdL [], []⟩
def gogeom_LinearRing_SetSRID_g (N : Nat) (v1 : (Int × Int × (List Nat) × Int × Unit)) (v2 : Int) : Option ((Unit × (Int × Int × (List Nat) × Int × Unit) × Unit)) :=
  (some ((), (v1.1, v1.2.1, v1.2.2.1, v2, ()), ()))
def gogeom_LinearRing_SetSRID (N : Nat) (v1 : (Int × Int × (List Nat) × Int × Unit)) (v2 : Int) : Option ((Unit × (Int × Int × (List Nat) × Int × Unit) × Unit)) :=
  gogeom_LinearRing_SetSRID_g N v1 v2
set_option maxRecDepth 100000
theorem gogeom_LinearRing_SetSRID_t (N : Nat) (v1 : (Int × Int × (List Nat) × Int × Unit)) (v2 : Int) : evF2 (gogeom_LinearRing_SetSRID_E N) [] Try.f108 [.box [.k (.int .i64), .k (.int .i64), .row 35 .float, .k (.int .i64)], .k (.int .i64)] [⟨[.par 0], [some (.box [.k (.int .i64), .k (.int .i64), .row 35 .float, .k (.int .i64)]), none]⟩] (v1, v2, ()) = gogeom_LinearRing_SetSRID N v1 v2 := by
  exact (show evF2 (gogeom_LinearRing_SetSRID_E N) [] Try.f108 [.box [.k (.int .i64), .k (.int .i64), .row 35 .float, .k (.int .i64)], .k (.int .i64)] [⟨[.par 0], [some (.box [.k (.int .i64), .k (.int .i64), .row 35 .float, .k (.int .i64)]), none]⟩] (v1, v2, ()) = gogeom_LinearRing_SetSRID_g N v1 v2 from by kernel_rfl).trans (by rfl)
noncomputable def gogeom_LinearRing_SetSRID_con (N : Nat) : Con2 := ⟨108, [.box [.k (.int .i64), .k (.int .i64), .row 35 .float, .k (.int .i64)], .k (.int .i64)], [⟨[.par 0], [some (.box [.k (.int .i64), .k (.int .i64), .row 35 .float, .k (.int .i64)]), none]⟩], fun x => gogeom_LinearRing_SetSRID N x.1 x.2.1⟩
theorem gogeom_LinearRing_SetSRID_s (N : Nat) : (gogeom_LinearRing_SetSRID_con N).Sound Try.prog :=
  Con2.sound_of (c := gogeom_LinearRing_SetSRID_con N) (E := (gogeom_LinearRing_SetSRID_E N)) (idle := []) Try.func108 (by kernel_rfl) (by kernel_rfl) ⟨allNil, allNil⟩ allNil (fun x y h => (gogeom_LinearRing_SetSRID_t N x.1 x.2.1).trans h)
/-- pub-orthodrome/impl.ints -/
noncomputable def impl_ints_E (N : Nat) : Env := ⟨Try.prog, N, [], [(0, ⟨[], [], [0], [], none⟩), (1, ⟨[], [], [0], [], none⟩)], kdL [(3, (.int .i64))], []⟩
def impl_ints_g (N : Nat) (v1 : (List Int)) : Option (((List Int) × Unit)) :=
  ((lim (v1.length * 8)).bind fun _ => (some (v1, ())))
def impl_ints (N : Nat) (v1 : (List Int)) : Option (((List Int) × Unit)) :=
  impl_ints_g N v1
set_option maxRecDepth 100000
theorem impl_ints_t (N : Nat) (v1 : (List Int)) : evF2 (impl_ints_E N) [] Try.f100 [.k (.list (.int .i64))] [⟨[.row 3 (.int .i64)], [none]⟩] (v1, ()) = impl_ints N v1 := by
  exact (show evF2 (impl_ints_E N) [] Try.f100 [.k (.list (.int .i64))] [⟨[.row 3 (.int .i64)], [none]⟩] (v1, ()) = impl_ints_g N v1 from by kernel_rfl).trans (by rfl)
noncomputable def impl_ints_con (N : Nat) : Con2 := ⟨100, [.k (.list (.int .i64))], [⟨[.row 3 (.int .i64)], [none]⟩], fun x => impl_ints N x.1⟩
theorem impl_ints_s (N : Nat) : (impl_ints_con N).Sound Try.prog :=
  Con2.sound_of (c := impl_ints_con N) (E := (impl_ints_E N)) (idle := []) Try.func100 (by kernel_rfl) (by kernel_rfl) ⟨allNil, allNil⟩ allNil (fun x y h => (impl_ints_t N x.1).trans h)
/-- pub-orthodrome/pub/gogeom.NewPolygonFlat -/
noncomputable def gogeom_NewPolygonFlat_b_E (N : Nat) : Env := ⟨Try.prog, N, [gogeom_Layout_Stride_con N], [(0, ⟨[], [], [0, 1, 2], [1000000, 1000001], none⟩), (1, ⟨[], [], [0, 1, 2], [1000000, 1000001], none⟩), (2, ⟨[], [], [0, 1, 2, 7], [8, 1000000, 1000001], none⟩), (3, ⟨[], [], [0, 1, 2, 7], [8, 1000000, 1000001], none⟩), (4, ⟨[], [], [1, 2, 7], [8, 1000000, 1000001], none⟩), (5, ⟨[], [], [2, 7], [8, 1000000, 1000001], none⟩), (6, ⟨[], [], [7], [8, 1000000, 1000001], none⟩)], kdL [], []⟩
def gogeom_NewPolygonFlat_b_g (N : Nat) (v1 : Int) (v2 : (List Nat)) (v3 : (List Int)) : Option (((Int × Int × (List Nat) × Int × (List Int) × Unit) × Unit)) :=
  ((gogeom_Layout_Stride N v1).bind fun v4 => (some ((v1, v4, v2, 0, v3, ()), ())))
def gogeom_NewPolygonFlat_b (N : Nat) (v1 : Int) (v2 : (List Nat)) (v3 : (List Int)) : Option (((Int × Int × (List Nat) × Int × (List Int) × Unit) × Unit)) :=
  gogeom_NewPolygonFlat_b_g N v1 v2 v3
set_option maxRecDepth 100000
theorem gogeom_NewPolygonFlat_b_t (N : Nat) (v1 : Int) (v2 : (List Nat)) (v3 : (List Int)) : evF2 (gogeom_NewPolygonFlat_b_E N) [] Try.f109 [.k (.int .i64), .row 35 .float, .row 3 (.int .i64)] [⟨[.box [.k (.int .i64), .k (.int .i64), .row 35 .float, .k (.int .i64), .row 3 (.int .i64)]], [none, none, none]⟩] (v1, v2, v3, ()) = gogeom_NewPolygonFlat_b N v1 v2 v3 := by
  exact (show evF2 (gogeom_NewPolygonFlat_b_E N) [] Try.f109 [.k (.int .i64), .row 35 .float, .row 3 (.int .i64)] [⟨[.box [.k (.int .i64), .k (.int .i64), .row 35 .float, .k (.int .i64), .row 3 (.int .i64)]], [none, none, none]⟩] (v1, v2, v3, ()) = gogeom_NewPolygonFlat_b_g N v1 v2 v3 from by kernel_rfl).trans (by rfl)
noncomputable def gogeom_NewPolygonFlat_b_con (N : Nat) : Con2 := ⟨109, [.k (.int .i64), .row 35 .float, .row 3 (.int .i64)], [⟨[.box [.k (.int .i64), .k (.int .i64), .row 35 .float, .k (.int .i64), .row 3 (.int .i64)]], [none, none, none]⟩], fun x => gogeom_NewPolygonFlat_b N x.1 x.2.1 x.2.2.1⟩
theorem gogeom_NewPolygonFlat_b_s (N : Nat) : (gogeom_NewPolygonFlat_b_con N).Sound Try.prog :=
  Con2.sound_of (c := gogeom_NewPolygonFlat_b_con N) (E := (gogeom_NewPolygonFlat_b_E N)) (idle := []) Try.func109 (by kernel_rfl) (by kernel_rfl) ⟨(allCons (gogeom_Layout_Stride_s N) allNil), allNil⟩ allNil (fun x y h => (gogeom_NewPolygonFlat_b_t N x.1 x.2.1 x.2.2.1).trans h)
/-- (*pub-orthodrome/pub/gogeom.Polygon).SetSRID -/
noncomputable def gogeom_Polygon_SetSRID_E (N : Nat) : Env := ⟨Try.prog, N, [], [(0, ⟨[], [], [0, 1], [1000000, 1000001, 1000002], none⟩), (1, ⟨[], [], [0, 1], [1000000, 1000001, 1000002], none⟩), (2, ⟨[], [], [0], [1000000, 1000001, 1000002], none⟩)], kdL [], []⟩
def gogeom_Polygon_SetSRID_g (N : Nat) (v1 : (Int × Int × (List Nat) × Int × (List Int) × Unit)) (v2 : Int) : Option ((Unit × (Int × Int × (List Nat) × Int × (List Int) × Unit) × Unit)) :=
  (some ((), (v1.1, v1.2.1, v1.2.2.1, v2, v1.2.2.2.2.1, ()), ()))
def gogeom_Polygon_SetSRID (N : Nat) (v1 : (Int × Int × (List Nat) × Int × (List Int) × Unit)) (v2 : Int) : Option ((Unit × (Int × Int × (List Nat) × Int × (List Int) × Unit) × Unit)) :=
  gogeom_Polygon_SetSRID_g N v1 v2
set_option maxRecDepth 100000
theorem gogeom_Polygon_SetSRID_t (N : Nat) (v1 : (Int × Int × (List Nat) × Int × (List Int) × Unit)) (v2 : Int) : evF2 (gogeom_Polygon_SetSRID_E N) [] Try.f110 [.box [.k (.int .i64), .k (.int .i64), .row 35 .float, .k (.int .i64), .row 3 (.int .i64)], .k (.int .i64)] [⟨[.par 0], [some (.box [.k (.int .i64), .k (.int .i64), .row 35 .float, .k (.int .i64), .row 3 (.int .i64)]), none]⟩] (v1, v2, ()) = gogeom_Polygon_SetSRID N v1 v2 := by
  exact (show evF2 (gogeom_Polygon_SetSRID_E N) [] Try.f110 [.box [.k (.int .i64), .k (.int .i64), .row 35 .float, .k (.int .i64), .row 3 (.int .i64)], .k (.int .i64)] [⟨[.par 0], [some (.box [.k (.int .i64), .k (.int .i64), .row 35 .float, .k (.int .i64), .row 3 (.int .i64)]), none]⟩] (v1, v2, ()) = gogeom_Polygon_SetSRID_g N v1 v2 from by kernel_rfl).trans (by rfl)
noncomputable def gogeom_Polygon_SetSRID_con (N : Nat) : Con2 := ⟨110, [.box [.k (.int .i64), .k (.int .i64), .row 35 .float, .k (.int .i64), .row 3 (.int .i64)], .k (.int .i64)], [⟨[.par 0], [some (.box [.k (.int .i64), .k (.int .i64), .row 35 .float, .k (.int .i64), .row 3 (.int .i64)]), none]⟩], fun x => gogeom_Polygon_SetSRID N x.1 x.2.1⟩
theorem gogeom_Polygon_SetSRID_s (N : Nat) : (gogeom_Polygon_SetSRID_con N).Sound Try.prog :=
  Con2.sound_of (c := gogeom_Polygon_SetSRID_con N) (E := (gogeom_Polygon_SetSRID_E N)) (idle := []) Try.func110 (by kernel_rfl) (by kernel_rfl) ⟨allNil, allNil⟩ allNil (fun x y h => (gogeom_Polygon_SetSRID_t N x.1 x.2.1).trans h)
/-- pub-orthodrome/pub/gogeom.NewMultiPointFlatOptionWithEnds -/
noncomputable def gogeom_NewMultiPointFlatOptionWithEnds_b_E (N : Nat) : Env := ⟨Try.prog, N, [], [(0, ⟨[], [], [0], [1000000], none⟩), (1, ⟨[], [], [1], [1, 1000000], none⟩)], kdL [], []⟩
def gogeom_NewMultiPointFlatOptionWithEnds_b_g (N : Nat) (v1 : (List Int)) : Option (((((List Int) × Unit) × Unit) × Unit)) :=
  (some (((v1, ()), ()), ()))
def gogeom_NewMultiPointFlatOptionWithEnds_b (N : Nat) (v1 : (List Int)) : Option (((((List Int) × Unit) × Unit) × Unit)) :=
  gogeom_NewMultiPointFlatOptionWithEnds_b_g N v1
set_option maxRecDepth 100000
theorem gogeom_NewMultiPointFlatOptionWithEnds_b_t (N : Nat) (v1 : (List Int)) : evF2 (gogeom_NewMultiPointFlatOptionWithEnds_b_E N) [] Try.f111 [.row 3 (.int .i64)] [⟨[.fn 136 [.box [.row 3 (.int .i64)]]], [none]⟩] (v1, ()) = gogeom_NewMultiPointFlatOptionWithEnds_b N v1 := by
  exact (show evF2 (gogeom_NewMultiPointFlatOptionWithEnds_b_E N) [] Try.f111 [.row 3 (.int .i64)] [⟨[.fn 136 [.box [.row 3 (.int .i64)]]], [none]⟩] (v1, ()) = gogeom_NewMultiPointFlatOptionWithEnds_b_g N v1 from by kernel_rfl).trans (by rfl)
noncomputable def gogeom_NewMultiPointFlatOptionWithEnds_b_con (N : Nat) : Con2 := ⟨111, [.row 3 (.int .i64)], [⟨[.fn 136 [.box [.row 3 (.int .i64)]]], [none]⟩], fun x => gogeom_NewMultiPointFlatOptionWithEnds_b N x.1⟩
theorem gogeom_NewMultiPointFlatOptionWithEnds_b_s (N : Nat) : (gogeom_NewMultiPointFlatOptionWithEnds_b_con N).Sound Try.prog :=
  Con2.sound_of (c := gogeom_NewMultiPointFlatOptionWithEnds_b_con N) (E := (gogeom_NewMultiPointFlatOptionWithEnds_b_E N)) (idle := []) Try.func111 (by kernel_rfl) (by kernel_rfl) ⟨allNil, allNil⟩ allNil (fun x y h => (gogeom_NewMultiPointFlatOptionWithEnds_b_t N x.1).trans h)
/-- pub-orthodrome/pub/gogeom.NewMultiLineStringFlat -/
noncomputable def gogeom_NewMultiLineStringFlat_b_E (N : Nat) : Env := ⟨Try.prog, N, [gogeom_Layout_Stride_con N], [(0, ⟨[], [], [0, 1, 2], [1000000, 1000001], none⟩), (1, ⟨[], [], [0, 1, 2], [1000000, 1000001], none⟩), (2, ⟨[], [], [0, 1, 2, 7], [8, 1000000, 1000001], none⟩), (3, ⟨[], [], [0, 1, 2, 7], [8, 1000000, 1000001], none⟩), (4, ⟨[], [], [1, 2, 7], [8, 1000000, 1000001], none⟩), (5, ⟨[], [], [2, 7], [8, 1000000, 1000001], none⟩), (6, ⟨[], [], [7], [8, 1000000, 1000001], none⟩)], kdL [], []⟩
def gogeom_NewMultiLineStringFlat_b_g (N : Nat) (v1 : Int) (v2 : (List Nat)) (v3 : (List Int)) : Option (((Int × Int × (List Nat) × Int × (List Int) × Unit) × Unit)) :=
  ((gogeom_Layout_Stride N v1).bind fun v4 => (some ((v1, v4, v2, 0, v3, ()), ())))
def gogeom_NewMultiLineStringFlat_b (N : Nat) (v1 : Int) (v2 : (List Nat)) (v3 : (List Int)) : Option (((Int × Int × (List Nat) × Int × (List Int) × Unit) × Unit)) :=
  gogeom_NewMultiLineStringFlat_b_g N v1 v2 v3
set_option maxRecDepth 100000
theorem gogeom_NewMultiLineStringFlat_b_t (N : Nat) (v1 : Int) (v2 : (List Nat)) (v3 : (List Int)) : evF2 (gogeom_NewMultiLineStringFlat_b_E N) [] Try.f113 [.k (.int .i64), .row 35 .float, .row 3 (.int .i64)] [⟨[.box [.k (.int .i64), .k (.int .i64), .row 35 .float, .k (.int .i64), .row 3 (.int .i64)]], [none, none, none]⟩] (v1, v2, v3, ()) = gogeom_NewMultiLineStringFlat_b N v1 v2 v3 := by
  exact (show evF2 (gogeom_NewMultiLineStringFlat_b_E N) [] Try.f113 [.k (.int .i64), .row 35 .float, .row 3 (.int .i64)] [⟨[.box [.k (.int .i64), .k (.int .i64), .row 35 .float, .k (.int .i64), .row 3 (.int .i64)]], [none, none, none]⟩] (v1, v2, v3, ()) = gogeom_NewMultiLineStringFlat_b_g N v1 v2 v3 from by kernel_rfl).trans (by rfl)
noncomputable def gogeom_NewMultiLineStringFlat_b_con (N : Nat) : Con2 := ⟨113, [.k (.int .i64), .row 35 .float, .row 3 (.int .i64)], [⟨[.box [.k (.int .i64), .k (.int .i64), .row 35 .float, .k (.int .i64), .row 3 (.int .i64)]], [none, none, none]⟩], fun x => gogeom_NewMultiLineStringFlat_b N x.1 x.2.1 x.2.2.1⟩
theorem gogeom_NewMultiLineStringFlat_b_s (N : Nat) : (gogeom_NewMultiLineStringFlat_b_con N).Sound Try.prog :=
  Con2.sound_of (c := gogeom_NewMultiLineStringFlat_b_con N) (E := (gogeom_NewMultiLineStringFlat_b_E N)) (idle := []) Try.func113 (by kernel_rfl) (by kernel_rfl) ⟨(allCons (gogeom_Layout_Stride_s N) allNil), allNil⟩ allNil (fun x y h => (gogeom_NewMultiLineStringFlat_b_t N x.1 x.2.1 x.2.2.1).trans h)
/-- (*pub-orthodrome/pub/gogeom.MultiLineString).SetSRID -/
noncomputable def gogeom_MultiLineString_SetSRID_E (N : Nat) : Env := ⟨Try.prog, N, [], [(0, ⟨[], [], [0, 1], [1000000, 1000001, 1000002], none⟩), (1, ⟨[], [], [0, 1], [1000000, 1000001, 1000002], none⟩), (2, ⟨[], [], [0], [1000000, 1000001, 1000002], none⟩)], kdL [], []⟩
def gogeom_MultiLineString_SetSRID_g (N : Nat) (v1 : (Int × Int × (List Nat) × Int × (List Int) × Unit)) (v2 : Int) : Option ((Unit × (Int × Int × (List Nat) × Int × (List Int) × Unit) × Unit)) :=
  (some ((), (v1.1, v1.2.1, v1.2.2.1, v2, v1.2.2.2.2.1, ()), ()))
def gogeom_MultiLineString_SetSRID (N : Nat) (v1 : (Int × Int × (List Nat) × Int × (List Int) × Unit)) (v2 : Int) : Option ((Unit × (Int × Int × (List Nat) × Int × (List Int) × Unit) × Unit)) :=
  gogeom_MultiLineString_SetSRID_g N v1 v2
set_option maxRecDepth 100000
theorem gogeom_MultiLineString_SetSRID_t (N : Nat) (v1 : (Int × Int × (List Nat) × Int × (List Int) × Unit)) (v2 : Int) : evF2 (gogeom_MultiLineString_SetSRID_E N) [] Try.f114 [.box [.k (.int .i64), .k (.int .i64), .row 35 .float, .k (.int .i64), .row 3 (.int .i64)], .k (.int .i64)] [⟨[.par 0], [some (.box [.k (.int .i64), .k (.int .i64), .row 35 .float, .k (.int .i64), .row 3 (.int .i64)]), none]⟩] (v1, v2, ()) = gogeom_MultiLineString_SetSRID N v1 v2 := by
  exact (show evF2 (gogeom_MultiLineString_SetSRID_E N) [] Try.f114 [.box [.k (.int .i64), .k (.int .i64), .row 35 .float, .k (.int .i64), .row 3 (.int .i64)], .k (.int .i64)] [⟨[.par 0], [some (.box [.k (.int .i64), .k (.int .i64), .row 35 .float, .k (.int .i64), .row 3 (.int .i64)]), none]⟩] (v1, v2, ()) = gogeom_MultiLineString_SetSRID_g N v1 v2 from by kernel_rfl).trans (by rfl)
noncomputable def gogeom_MultiLineString_SetSRID_con (N : Nat) : Con2 := ⟨114, [.box [.k (.int .i64), .k (.int .i64), .row 35 .float, .k (.int .i64), .row 3 (.int .i64)], .k (.int .i64)], [⟨[.par 0], [some (.box [.k (.int .i64), .k (.int .i64), .row 35 .float, .k (.int .i64), .row 3 (.int .i64)]), none]⟩], fun x => gogeom_MultiLineString_SetSRID N x.1 x.2.1⟩
theorem gogeom_MultiLineString_SetSRID_s (N : Nat) : (gogeom_MultiLineString_SetSRID_con N).Sound Try.prog :=
  Con2.sound_of (c := gogeom_MultiLineString_SetSRID_con N) (E := (gogeom_MultiLineString_SetSRID_E N)) (idle := []) Try.func114 (by kernel_rfl) (by kernel_rfl) ⟨allNil, allNil⟩ allNil (fun x y h => (gogeom_MultiLineString_SetSRID_t N x.1 x.2.1).trans h)
/-- pub-orthodrome/impl.intss -/
noncomputable def impl_intss_E (N : Nat) : Env := ⟨Try.prog, N, [], [(0, ⟨[], [], [0], [], none⟩), (1, ⟨[], [], [0], [], none⟩), (2, ⟨[], [], [0, 3], [], none⟩), (3, ⟨[(3, 29, (.list (.int .i64)), 90300)], [], [3, 6, 7, 8], [90300], none⟩), (4, ⟨[], [], [3, 6, 7, 8], [90300], none⟩), (5, ⟨[], [], [3, 5, 6, 7, 8], [90300], none⟩), (6, ⟨[], [], [3, 6, 7, 8], [16], none⟩), (7, ⟨[], [], [3], [90300], none⟩)], kdL [(29, (.list (.int .i64)))], [impl_ints_con N]⟩
def impl_intss_g0 (N : Nat) (v1 : (List (List Int))) (r0 : Int → (List (List Int)) → Option (((List (List Int)) × Unit))) (v4 : Int) (v5 : (List (List Int))) : Option (((List (List Int)) × Unit)) :=
  (bif (decide ((v4 : Int) < (v1.length : Int))) then ((nth v1 v4).bind fun v6 => ((impl_ints N v6).bind fun v7 => (lim ((v5.length + ([v7.1] : List (List Int)).length) * 24)).bind fun _ => ((r0 (IntKind.i64.wrap (v4 + 1)) (v5 ++ ([v7.1] : List (List Int))))))) else (some (v5, ())))
def impl_intss_l0 (N : Nat) : Nat → (List (List Int)) → Int → (List (List Int)) → Option (((List (List Int)) × Unit))
  | 0, _, _, _ => none
  | n + 1, v1, v4, v5 => impl_intss_g0 N v1 (impl_intss_l0 N n v1) v4 v5
def impl_intss_g (N : Nat) (v1 : (List (List Int))) (c0 : (List (List Int)) → Int → (List (List Int)) → Option (((List (List Int)) × Unit))) : Option (((List (List Int)) × Unit)) :=
  ((c0 v1 0 ([] : List (List Int))))
def impl_intss (N : Nat) (v1 : (List (List Int))) : Option (((List (List Int)) × Unit)) :=
  impl_intss_g N v1 (impl_intss_l0 N N)
set_option maxRecDepth 100000
noncomputable def impl_intss_e0 (N : Nat) (n : Nat) (v1 : (List (List Int))) (v4 : Int) (v5 : (List (List Int))) : Option (AltD [⟨[.row 29 (.list (.int .i64))], [none]⟩]) :=
  loopN (advOf (impl_intss_E N) (codeAt (bodyOf Try.f101) [1, 1, 0, 1, 0, 0])) (evC (impl_intss_E N) (codeAt (bodyOf Try.f101) [1, 1, 0, 1, 0, 0])) n ⟨[(3, .own (.list (.int .i64)) 90300), (6, .pv (.list (.list (.int .i64))) v1), (7, .pv (.int .i64) (v1.length : Int)), (8, .pv (.int .i64) v4)], [(90300, .arr 29 (.list (.int .i64)) v5)], []⟩ (kBlock 0 (kSeq (advOf (impl_intss_E N) (codeAt (bodyOf Try.f101) [1, 1, 1])) (evC (impl_intss_E N) (codeAt (bodyOf Try.f101) [1, 1, 1])) (kEnd2 (impl_intss_E N) [] Try.f101.results.toList [⟨[.row 29 (.list (.int .i64))], [none]⟩] [.dead])))
theorem impl_intss_t0 (N : Nat) : ∀ (n : Nat) (v1 : (List (List Int))) (v4 : Int) (v5 : (List (List Int))), impl_intss_e0 N n v1 v4 v5 = impl_intss_l0 N n v1 v4 v5
  | 0, _, _, _ => rfl
  | n + 1, v1, v4, v5 => by
    have h : impl_intss_e0 N n v1 = impl_intss_l0 N n v1 := by funext v4 v5; exact impl_intss_t0 N n v1 v4 v5
    exact (show impl_intss_e0 N (n + 1) v1 v4 v5 = impl_intss_g0 N v1 (impl_intss_e0 N n v1) v4 v5 from by kernel_rfl).trans (by rw [h]; rfl)
theorem impl_intss_t (N : Nat) (v1 : (List (List Int))) : evF2 (impl_intss_E N) [] Try.f101 [.k (.list (.list (.int .i64)))] [⟨[.row 29 (.list (.int .i64))], [none]⟩] (v1, ()) = impl_intss N v1 := by
  have h0 : (impl_intss_e0 N N) = (impl_intss_l0 N N) := by funext v1 v4 v5; exact impl_intss_t0 N N v1 v4 v5
  exact (show evF2 (impl_intss_E N) [] Try.f101 [.k (.list (.list (.int .i64)))] [⟨[.row 29 (.list (.int .i64))], [none]⟩] (v1, ()) = impl_intss_g N v1 (impl_intss_e0 N N) from by kernel_rfl).trans (by rw [h0]; rfl)
noncomputable def impl_intss_con (N : Nat) : Con2 := ⟨101, [.k (.list (.list (.int .i64)))], [⟨[.row 29 (.list (.int .i64))], [none]⟩], fun x => impl_intss N x.1⟩
theorem impl_intss_s (N : Nat) : (impl_intss_con N).Sound Try.prog :=
  Con2.sound_of (c := impl_intss_con N) (E := (impl_intss_E N)) (idle := []) Try.func101 (by kernel_rfl) (by kernel_rfl) ⟨allNil, (allCons (impl_ints_s N) allNil)⟩ allNil (fun x y h => (impl_intss_t N x.1).trans h)
/-- pub-orthodrome/pub/gogeom.NewMultiPolygonFlat -/
noncomputable def gogeom_NewMultiPolygonFlat_E (N : Nat) : Env := ⟨Try.prog, N, [gogeom_Layout_Stride_con N], [(0, ⟨[], [], [0, 1, 2], [], none⟩), (1, ⟨[], [], [0, 1, 2], [], none⟩), (2, ⟨[], [], [0, 1, 2, 7], [8], none⟩), (3, ⟨[], [], [0, 1, 2, 7], [8], none⟩), (4, ⟨[], [], [1, 2, 7], [8], none⟩), (5, ⟨[], [], [2, 7], [8], none⟩), (6, ⟨[], [], [7], [8], none⟩)], kdL [], []⟩
def gogeom_NewMultiPolygonFlat_g (N : Nat) (v1 : Int) (v2 : (List Nat)) (v3 : (List (List Int))) : Option (((Int × Int × (List Nat) × Int × (List (List Int)) × Unit) × Unit)) :=
  ((gogeom_Layout_Stride N v1).bind fun v4 => (some ((v1, v4, v2, 0, v3, ()), ())))
def gogeom_NewMultiPolygonFlat (N : Nat) (v1 : Int) (v2 : (List Nat)) (v3 : (List (List Int))) : Option (((Int × Int × (List Nat) × Int × (List (List Int)) × Unit) × Unit)) :=
  gogeom_NewMultiPolygonFlat_g N v1 v2 v3
set_option maxRecDepth 100000
theorem gogeom_NewMultiPolygonFlat_t (N : Nat) (v1 : Int) (v2 : (List Nat)) (v3 : (List (List Int))) : evF2 (gogeom_NewMultiPolygonFlat_E N) [] Try.f115 [.k (.int .i64), .k (.list .float), .k (.list (.list (.int .i64)))] [⟨[.box [.k (.int .i64), .k (.int .i64), .k (.list .float), .k (.int .i64), .k (.list (.list (.int .i64)))]], [none, none, none]⟩] (v1, v2, v3, ()) = gogeom_NewMultiPolygonFlat N v1 v2 v3 := by
  exact (show evF2 (gogeom_NewMultiPolygonFlat_E N) [] Try.f115 [.k (.int .i64), .k (.list .float), .k (.list (.list (.int .i64)))] [⟨[.box [.k (.int .i64), .k (.int .i64), .k (.list .float), .k (.int .i64), .k (.list (.list (.int .i64)))]], [none, none, none]⟩] (v1, v2, v3, ()) = gogeom_NewMultiPolygonFlat_g N v1 v2 v3 from by kernel_rfl).trans (by rfl)
noncomputable def gogeom_NewMultiPolygonFlat_con (N : Nat) : Con2 := ⟨115, [.k (.int .i64), .k (.list .float), .k (.list (.list (.int .i64)))], [⟨[.box [.k (.int .i64), .k (.int .i64), .k (.list .float), .k (.int .i64), .k (.list (.list (.int .i64)))]], [none, none, none]⟩], fun x => gogeom_NewMultiPolygonFlat N x.1 x.2.1 x.2.2.1⟩
theorem gogeom_NewMultiPolygonFlat_s (N : Nat) : (gogeom_NewMultiPolygonFlat_con N).Sound Try.prog :=
  Con2.sound_of (c := gogeom_NewMultiPolygonFlat_con N) (E := (gogeom_NewMultiPolygonFlat_E N)) (idle := []) Try.func115 (by kernel_rfl) (by kernel_rfl) ⟨(allCons (gogeom_Layout_Stride_s N) allNil), allNil⟩ allNil (fun x y h => (gogeom_NewMultiPolygonFlat_t N x.1 x.2.1 x.2.2.1).trans h)
/-- (*pub-orthodrome/pub/gogeom.MultiPolygon).SetSRID -/
noncomputable def gogeom_MultiPolygon_SetSRID_E (N : Nat) : Env := ⟨Try.prog, N, [], [(0, ⟨[], [], [0, 1], [1000000], none⟩), (1, ⟨[], [], [0, 1], [1000000], none⟩), (2, ⟨[], [], [0], [1000000], none⟩)], kdL [], []⟩
def gogeom_MultiPolygon_SetSRID_g (N : Nat) (v1 : (Int × Int × (List Nat) × Int × (List (List Int)) × Unit)) (v2 : Int) : Option ((Unit × (Int × Int × (List Nat) × Int × (List (List Int)) × Unit) × Unit)) :=
  (some ((), (v1.1, v1.2.1, v1.2.2.1, v2, v1.2.2.2.2.1, ()), ()))
def gogeom_MultiPolygon_SetSRID (N : Nat) (v1 : (Int × Int × (List Nat) × Int × (List (List Int)) × Unit)) (v2 : Int) : Option ((Unit × (Int × Int × (List Nat) × Int × (List (List Int)) × Unit) × Unit)) :=
  gogeom_MultiPolygon_SetSRID_g N v1 v2
set_option maxRecDepth 100000
theorem gogeom_MultiPolygon_SetSRID_t (N : Nat) (v1 : (Int × Int × (List Nat) × Int × (List (List Int)) × Unit)) (v2 : Int) : evF2 (gogeom_MultiPolygon_SetSRID_E N) [] Try.f116 [.box [.k (.int .i64), .k (.int .i64), .k (.list .float), .k (.int .i64), .k (.list (.list (.int .i64)))], .k (.int .i64)] [⟨[.par 0], [some (.box [.k (.int .i64), .k (.int .i64), .k (.list .float), .k (.int .i64), .k (.list (.list (.int .i64)))]), none]⟩] (v1, v2, ()) = gogeom_MultiPolygon_SetSRID N v1 v2 := by
  exact (show evF2 (gogeom_MultiPolygon_SetSRID_E N) [] Try.f116 [.box [.k (.int .i64), .k (.int .i64), .k (.list .float), .k (.int .i64), .k (.list (.list (.int .i64)))], .k (.int .i64)] [⟨[.par 0], [some (.box [.k (.int .i64), .k (.int .i64), .k (.list .float), .k (.int .i64), .k (.list (.list (.int .i64)))]), none]⟩] (v1, v2, ()) = gogeom_MultiPolygon_SetSRID_g N v1 v2 from by kernel_rfl).trans (by rfl)
noncomputable def gogeom_MultiPolygon_SetSRID_con (N : Nat) : Con2 := ⟨116, [.box [.k (.int .i64), .k (.int .i64), .k (.list .float), .k (.int .i64), .k (.list (.list (.int .i64)))], .k (.int .i64)], [⟨[.par 0], [some (.box [.k (.int .i64), .k (.int .i64), .k (.list .float), .k (.int .i64), .k (.list (.list (.int .i64)))]), none]⟩], fun x => gogeom_MultiPolygon_SetSRID N x.1 x.2.1⟩
theorem gogeom_MultiPolygon_SetSRID_s (N : Nat) : (gogeom_MultiPolygon_SetSRID_con N).Sound Try.prog :=
  Con2.sound_of (c := gogeom_MultiPolygon_SetSRID_con N) (E := (gogeom_MultiPolygon_SetSRID_E N)) (idle := []) Try.func116 (by kernel_rfl) (by kernel_rfl) ⟨allNil, allNil⟩ allNil (fun x y h => (gogeom_MultiPolygon_SetSRID_t N x.1 x.2.1).trans h)
/-- pub-orthodrome/impl.geometry -/
noncomputable def impl_geometry_E (N : Nat) : Env := ⟨Try.prog, N, [], [(0, ⟨[], [], [0], [], none⟩), (1, ⟨[], [], [1, 2], [1], none⟩), (2, ⟨[], [], [1, 2, 3, 4], [1, 100600], none⟩), (3, ⟨[], [], [1, 2, 3, 4, 14], [1, 100600], none⟩), (4, ⟨[], [], [1, 2, 3, 4, 14, 15], [1, 100600], none⟩), (6, ⟨[], [], [1, 2, 3, 4, 14, 24], [1, 100600], none⟩), (8, ⟨[], [], [1, 2, 3, 4, 14, 33], [1, 100600], none⟩), (10, ⟨[], [], [1, 2, 3, 4, 14, 42], [1, 100600], none⟩), (12, ⟨[], [], [1, 2, 3, 4, 14, 54], [1, 100600], none⟩), (14, ⟨[], [], [1, 2, 3, 4, 14, 68], [1, 100600], none⟩), (16, ⟨[], [], [1, 2, 3, 4, 14, 80], [1, 100600], none⟩), (18, ⟨[], [], [1, 2, 3, 92], [1], none⟩), (19, ⟨[], [], [1, 3, 5], [], none⟩), (20, ⟨[], [], [3, 5, 99, 100, 101], [], none⟩), (21, ⟨[], [], [3, 5, 99, 100, 101], [], none⟩), (22, ⟨[], [], [3, 5, 7, 99, 100, 101], [], none⟩), (23, ⟨[], [], [3, 5, 99, 100, 101], [], none⟩), (24, ⟨[], [], [3, 5], [], none⟩), (25, ⟨[], [], [2], [], none⟩)], kdL [], [impl_floats_con N, gogeom_NewPointFlat_b_con N, gogeom_Point_SetSRID_con N, gogeom_NewLineStringFlat_b_con N, gogeom_LineString_SetSRID_con N, gogeom_NewLinearRingFlat_b_con N, gogeom_LinearRing_SetSRID_con N, impl_ints_con N, gogeom_NewPolygonFlat_b_con N, gogeom_Polygon_SetSRID_con N, gogeom_NewMultiPointFlatOptionWithEnds_b_con N, gogeom_NewMultiLineStringFlat_b_con N, gogeom_MultiLineString_SetSRID_con N, impl_intss_con N, gogeom_NewMultiPolygonFlat_con N, gogeom_MultiPolygon_SetSRID_con N]⟩
def impl_geometry_g (N : Nat) (v1 : Geo) : Option (((Int × Int × (List Nat) × Int × Unit) × Unit) ⊕ ((Int × Int × (List Nat) × Int × Unit) × Unit) ⊕ ((Int × Int × (List Nat) × Int × Unit) × Unit) ⊕ ((Int × Int × (List Nat) × Int × (List Int) × Unit) × Unit) ⊕ ((Int × Int × (List Nat) × Int × (List Int) × Unit) × Unit) ⊕ ((Int × Int × (List Nat) × Int × (List (List Int)) × Unit) × Unit)) :=
  ((impl_floats N v1.flat).bind fun v2 => (bif (v1.kind == 1) then ((gogeom_NewPointFlat_b N v1.layout v2.1).bind fun v3 => (gogeom_Point_SetSRID N (v3.1.1, v3.1.2.1, v3.1.2.2.1, v3.1.2.2.2.1, ()) v1.srid).bind fun v4 => (some (Sum.inl ((v4.2.1.1, v4.2.1.2.1, v4.2.1.2.2.1, v4.2.1.2.2.2.1, ()), ())))) else (bif (v1.kind == 2) then ((gogeom_NewLineStringFlat_b N v1.layout v2.1).bind fun v5 => (gogeom_LineString_SetSRID N (v5.1.1, v5.1.2.1, v5.1.2.2.1, v5.1.2.2.2.1, ()) v1.srid).bind fun v6 => (some (Sum.inr (Sum.inl ((v6.2.1.1, v6.2.1.2.1, v6.2.1.2.2.1, v6.2.1.2.2.2.1, ()), ()))))) else (bif (v1.kind == 8) then ((gogeom_NewLinearRingFlat_b N v1.layout v2.1).bind fun v7 => (gogeom_LinearRing_SetSRID N (v7.1.1, v7.1.2.1, v7.1.2.2.1, v7.1.2.2.2.1, ()) v1.srid).bind fun v8 => (some (Sum.inr (Sum.inr (Sum.inl ((v8.2.1.1, v8.2.1.2.1, v8.2.1.2.2.1, v8.2.1.2.2.2.1, ()), ())))))) else (bif (v1.kind == 3) then ((impl_ints N v1.ends).bind fun v9 => (gogeom_NewPolygonFlat_b N v1.layout v2.1 v9.1).bind fun v10 => (gogeom_Polygon_SetSRID N (v10.1.1, v10.1.2.1, v10.1.2.2.1, v10.1.2.2.2.1, v10.1.2.2.2.2.1, ()) v1.srid).bind fun v11 => (some (Sum.inr (Sum.inr (Sum.inr (Sum.inl ((v11.2.1.1, v11.2.1.2.1, v11.2.1.2.2.1, v11.2.1.2.2.2.1, v11.2.1.2.2.2.2.1, ()), ()))))))) else (bif (v1.kind == 4) then ((impl_ints N v1.ends).bind fun v12 => (gogeom_NewMultiPointFlatOptionWithEnds_b N v12.1).bind fun v13 => none) else (bif (v1.kind == 5) then ((impl_ints N v1.ends).bind fun v14 => (gogeom_NewMultiLineStringFlat_b N v1.layout v2.1 v14.1).bind fun v15 => (gogeom_MultiLineString_SetSRID N (v15.1.1, v15.1.2.1, v15.1.2.2.1, v15.1.2.2.2.1, v15.1.2.2.2.2.1, ()) v1.srid).bind fun v16 => (some (Sum.inr (Sum.inr (Sum.inr (Sum.inr (Sum.inl ((v16.2.1.1, v16.2.1.2.1, v16.2.1.2.2.1, v16.2.1.2.2.2.1, v16.2.1.2.2.2.2.1, ()), ())))))))) else (bif (v1.kind == 6) then ((impl_intss N v1.endss).bind fun v17 => (gogeom_NewMultiPolygonFlat N v1.layout v2.1 v17.1).bind fun v18 => (gogeom_MultiPolygon_SetSRID N (v18.1.1, v18.1.2.1, v18.1.2.2.1, v18.1.2.2.2.1, v18.1.2.2.2.2.1, ()) v1.srid).bind fun v19 => (some (Sum.inr (Sum.inr (Sum.inr (Sum.inr (Sum.inr ((v19.2.1.1, v19.2.1.2.1, v19.2.1.2.2.1, v19.2.1.2.2.2.1, v19.2.1.2.2.2.2.1, ()), ())))))))) else (bif (v1.kind == 7) then none else none)))))))))
def impl_geometry (N : Nat) (v1 : Geo) : Option (((Int × Int × (List Nat) × Int × Unit) × Unit) ⊕ ((Int × Int × (List Nat) × Int × Unit) × Unit) ⊕ ((Int × Int × (List Nat) × Int × Unit) × Unit) ⊕ ((Int × Int × (List Nat) × Int × (List Int) × Unit) × Unit) ⊕ ((Int × Int × (List Nat) × Int × (List Int) × Unit) × Unit) ⊕ ((Int × Int × (List Nat) × Int × (List (List Int)) × Unit) × Unit)) :=
  impl_geometry_g N v1
set_option maxRecDepth 100000
theorem impl_geometry_t (N : Nat) (v1 : Geo) : evF2 (impl_geometry_E N) [] Try.f66 [.k .geo] [⟨[.ifc 103 (.box [.k (.int .i64), .k (.int .i64), .row 35 .float, .k (.int .i64)])], [none]⟩, ⟨[.ifc 85 (.box [.k (.int .i64), .k (.int .i64), .row 35 .float, .k (.int .i64)])], [none]⟩, ⟨[.ifc 92 (.box [.k (.int .i64), .k (.int .i64), .row 35 .float, .k (.int .i64)])], [none]⟩, ⟨[.ifc 125 (.box [.k (.int .i64), .k (.int .i64), .row 35 .float, .k (.int .i64), .row 3 (.int .i64)])], [none]⟩, ⟨[.ifc 152 (.box [.k (.int .i64), .k (.int .i64), .row 35 .float, .k (.int .i64), .row 3 (.int .i64)])], [none]⟩, ⟨[.ifc 153 (.box [.k (.int .i64), .k (.int .i64), .k (.list .float), .k (.int .i64), .k (.list (.list (.int .i64)))])], [none]⟩] (v1, ()) = impl_geometry N v1 := by
  exact (show evF2 (impl_geometry_E N) [] Try.f66 [.k .geo] [⟨[.ifc 103 (.box [.k (.int .i64), .k (.int .i64), .row 35 .float, .k (.int .i64)])], [none]⟩, ⟨[.ifc 85 (.box [.k (.int .i64), .k (.int .i64), .row 35 .float, .k (.int .i64)])], [none]⟩, ⟨[.ifc 92 (.box [.k (.int .i64), .k (.int .i64), .row 35 .float, .k (.int .i64)])], [none]⟩, ⟨[.ifc 125 (.box [.k (.int .i64), .k (.int .i64), .row 35 .float, .k (.int .i64), .row 3 (.int .i64)])], [none]⟩, ⟨[.ifc 152 (.box [.k (.int .i64), .k (.int .i64), .row 35 .float, .k (.int .i64), .row 3 (.int .i64)])], [none]⟩, ⟨[.ifc 153 (.box [.k (.int .i64), .k (.int .i64), .k (.list .float), .k (.int .i64), .k (.list (.list (.int .i64)))])], [none]⟩] (v1, ()) = impl_geometry_g N v1 from by kernel_rfl).trans (by rfl)
noncomputable def impl_geometry_con (N : Nat) : Con2 := ⟨66, [.k .geo], [⟨[.ifc 103 (.box [.k (.int .i64), .k (.int .i64), .row 35 .float, .k (.int .i64)])], [none]⟩, ⟨[.ifc 85 (.box [.k (.int .i64), .k (.int .i64), .row 35 .float, .k (.int .i64)])], [none]⟩, ⟨[.ifc 92 (.box [.k (.int .i64), .k (.int .i64), .row 35 .float, .k (.int .i64)])], [none]⟩, ⟨[.ifc 125 (.box [.k (.int .i64), .k (.int .i64), .row 35 .float, .k (.int .i64), .row 3 (.int .i64)])], [none]⟩, ⟨[.ifc 152 (.box [.k (.int .i64), .k (.int .i64), .row 35 .float, .k (.int .i64), .row 3 (.int .i64)])], [none]⟩, ⟨[.ifc 153 (.box [.k (.int .i64), .k (.int .i64), .k (.list .float), .k (.int .i64), .k (.list (.list (.int .i64)))])], [none]⟩], fun x => impl_geometry N x.1⟩
theorem impl_geometry_s (N : Nat) : (impl_geometry_con N).Sound Try.prog :=
  Con2.sound_of (c := impl_geometry_con N) (E := (impl_geometry_E N)) (idle := []) Try.func66 (by kernel_rfl) (by kernel_rfl) ⟨allNil, (allCons (impl_floats_s N) (allCons (gogeom_NewPointFlat_b_s N) (allCons (gogeom_Point_SetSRID_s N) (allCons (gogeom_NewLineStringFlat_b_s N) (allCons (gogeom_LineString_SetSRID_s N) (allCons (gogeom_NewLinearRingFlat_b_s N) (allCons (gogeom_LinearRing_SetSRID_s N) (allCons (impl_ints_s N) (allCons (gogeom_NewPolygonFlat_b_s N) (allCons (gogeom_Polygon_SetSRID_s N) (allCons (gogeom_NewMultiPointFlatOptionWithEnds_b_s N) (allCons (gogeom_NewMultiLineStringFlat_b_s N) (allCons (gogeom_MultiLineString_SetSRID_s N) (allCons (impl_intss_s N) (allCons (gogeom_NewMultiPolygonFlat_s N) (allCons (gogeom_MultiPolygon_SetSRID_s N) allNil))))))))))))))))⟩ allNil (fun x y h => (impl_geometry_t N x.1).trans h)
/-- (*pub-orthodrome/pub/gogeom.Point).Length -/
noncomputable def gogeom_Point_Length_E (N : Nat) : Env := ⟨Try.prog, N, [], [(0, ⟨[], [], [], [], none⟩), (1, ⟨[], [], [], [], none⟩)], kdL [], []⟩
def gogeom_Point_Length_g (N : Nat) (v1 : ((Int × (Int × ((List Nat) × (Int × Unit)))) × Unit)) : Option ((Nat × Unit)) :=
  (some (0, ()))
def gogeom_Point_Length (N : Nat) (v1 : ((Int × (Int × ((List Nat) × (Int × Unit)))) × Unit)) : Option ((Nat × Unit)) :=
  gogeom_Point_Length_g N v1
set_option maxRecDepth 100000
theorem gogeom_Point_Length_t (N : Nat) (v1 : ((Int × (Int × ((List Nat) × (Int × Unit)))) × Unit)) : evF2 (gogeom_Point_Length_E N) [] Try.f192 [.lref (.pair (.pair (.int .i64) (.pair (.int .i64) (.pair (.list .float) (.pair (.int .i64) .unit)))) .unit)] [⟨[.k .float], [none]⟩] (v1, ()) = gogeom_Point_Length N v1 := by
  exact (show evF2 (gogeom_Point_Length_E N) [] Try.f192 [.lref (.pair (.pair (.int .i64) (.pair (.int .i64) (.pair (.list .float) (.pair (.int .i64) .unit)))) .unit)] [⟨[.k .float], [none]⟩] (v1, ()) = gogeom_Point_Length_g N v1 from by kernel_rfl).trans (by rfl)
noncomputable def gogeom_Point_Length_con (N : Nat) : Con2 := ⟨192, [.lref (.pair (.pair (.int .i64) (.pair (.int .i64) (.pair (.list .float) (.pair (.int .i64) .unit)))) .unit)], [⟨[.k .float], [none]⟩], fun x => gogeom_Point_Length N x.1⟩
theorem gogeom_Point_Length_s (N : Nat) : (gogeom_Point_Length_con N).Sound Try.prog :=
  Con2.sound_of (c := gogeom_Point_Length_con N) (E := (gogeom_Point_Length_E N)) (idle := []) Try.func192 (by kernel_rfl) (by kernel_rfl) ⟨allNil, allNil⟩ allNil (fun x y h => (gogeom_Point_Length_t N x.1).trans h)
/-- math.sqrt -/
def math_sqrt (N : Nat) (v1 : Nat) : Option Nat := fsqrt v1
noncomputable def math_sqrt_con (N : Nat) : Con := ⟨79, [.k .float], [.float], fun x => math_sqrt N x.1⟩
theorem math_sqrt_s (N : Nat) : (math_sqrt_con N).Sound Try.prog := sqrt_of Try.func79 (by kernel_rfl) (by kernel_rfl) (by kernel_rfl) (by kernel_rfl)
/-- math.Sqrt -/
noncomputable def math_Sqrt_E (N : Nat) : Env := ⟨Try.prog, N, [math_sqrt_con N], [(0, ⟨[], [], [0], [], none⟩), (1, ⟨[], [], [0], [], none⟩)], kdL [], []⟩
def math_Sqrt_g (N : Nat) (v1 : Nat) : Option (Nat) :=
  ((math_sqrt N v1).bind fun v2 => (some v2))
def math_Sqrt (N : Nat) (v1 : Nat) : Option (Nat) :=
  math_Sqrt_g N v1
set_option maxRecDepth 100000
theorem math_Sqrt_t (N : Nat) (v1 : Nat) : evF (math_Sqrt_E N) [] Try.f39 [.k .float] [.float] (v1, ()) = math_Sqrt N v1 := by
  exact (show evF (math_Sqrt_E N) [] Try.f39 [.k .float] [.float] (v1, ()) = math_Sqrt_g N v1 from by kernel_rfl).trans (by rfl)
noncomputable def math_Sqrt_con (N : Nat) : Con := ⟨39, [.k .float], [.float], fun x => math_Sqrt N x.1⟩
theorem math_Sqrt_s (N : Nat) : (math_Sqrt_con N).Sound Try.prog :=
  Con.sound_of (c := math_Sqrt_con N) (E := (math_Sqrt_E N)) (idle := []) Try.func39 (by kernel_rfl) (by kernel_rfl) ⟨(allCons (math_sqrt_s N) allNil), allNil⟩ allNil (fun x y h => (math_Sqrt_t N x.1).trans h)
/-- pub-orthodrome/pub/gogeom.length1 -/
noncomputable def gogeom_length1_E (N : Nat) : Env := ⟨Try.prog, N, [math_Sqrt_con N], [(0, ⟨[], [], [0, 1, 2, 3], [], none⟩), (1, ⟨[], [], [0, 1, 2, 3], [], none⟩), (2, ⟨[], [], [0, 1, 2, 3, 9], [], none⟩), (3, ⟨[], [], [0, 2, 3, 9, 10], [], none⟩), (4, ⟨[], [], [0, 2, 3, 9, 10], [], none⟩), (5, ⟨[], [], [0, 2, 3, 9, 10], [], none⟩), (6, ⟨[], [], [0, 2, 3, 9, 10, 11], [], none⟩), (7, ⟨[], [], [0, 2, 3, 9, 10, 11, 12], [], none⟩), (8, ⟨[], [], [9], [], none⟩)], kdL [], []⟩
def gogeom_length1_g0 (N : Nat) (v1 : (List Nat)) (v3 : Int) (v4 : Int) (r0 : Nat → Int → Option (Nat)) (v16 : Nat) (v17 : Int) : Option (Nat) :=
  (bif (decide ((v17 : Int) < v3)) then ((nth v1 v17).bind fun v18 => (nth v1 (IntKind.i64.wrap (v17 - v4))).bind fun v19 => (Ieee.double.sub v18 v19).bind fun v20 => ((nth v1 (IntKind.i64.wrap (v17 + 1))).bind fun v21 => (nth v1 (IntKind.i64.wrap ((IntKind.i64.wrap (v17 + 1)) - v4))).bind fun v22 => (Ieee.double.sub v21 v22).bind fun v23 => ((Ieee.double.mul v20 v20).bind fun v24 => (Ieee.double.mul v23 v23).bind fun v25 => (Ieee.double.add v24 v25).bind fun v26 => (math_Sqrt N v26).bind fun v27 => (Ieee.double.add v16 v27).bind fun v28 => ((r0 v28 (IntKind.i64.wrap (v17 + v4))))))) else (some v16))
def gogeom_length1_l0 (N : Nat) : Nat → (List Nat) → Int → Int → Nat → Int → Option (Nat)
  | 0, _, _, _, _, _ => none
  | n + 1, v1, v3, v4, v16, v17 => gogeom_length1_g0 N v1 v3 v4 (gogeom_length1_l0 N n v1 v3 v4) v16 v17
def gogeom_length1_g (N : Nat) (v1 : (List Nat)) (v2 : Int) (v3 : Int) (v4 : Int) (c0 : (List Nat) → Int → Int → Nat → Int → Option (Nat)) : Option (Nat) :=
  ((c0 v1 v3 v4 0 (IntKind.i64.wrap (v2 + v4))))
def gogeom_length1 (N : Nat) (v1 : (List Nat)) (v2 : Int) (v3 : Int) (v4 : Int) : Option (Nat) :=
  gogeom_length1_g N v1 v2 v3 v4 (gogeom_length1_l0 N N)
set_option maxRecDepth 100000
noncomputable def gogeom_length1_e0 (N : Nat) (n : Nat) (v1 : (List Nat)) (v3 : Int) (v4 : Int) (v16 : Nat) (v17 : Int) : Option (HR [.float]) :=
  loopN (advOf (gogeom_length1_E N) (codeAt (bodyOf Try.f180) [1, 1, 0, 1, 0, 0])) (evC (gogeom_length1_E N) (codeAt (bodyOf Try.f180) [1, 1, 0, 1, 0, 0])) n ⟨[(0, .pv (.list .float) v1), (2, .pv (.int .i64) v3), (3, .pv (.int .i64) v4), (9, .pv .float v16), (10, .pv (.int .i64) v17)], [], []⟩ (kBlock 0 (kSeq (advOf (gogeom_length1_E N) (codeAt (bodyOf Try.f180) [1, 1, 1])) (evC (gogeom_length1_E N) (codeAt (bodyOf Try.f180) [1, 1, 1])) (kEnd (gogeom_length1_E N) [] Try.f180.results.toList [.float])))
theorem gogeom_length1_t0 (N : Nat) : ∀ (n : Nat) (v1 : (List Nat)) (v3 : Int) (v4 : Int) (v16 : Nat) (v17 : Int), gogeom_length1_e0 N n v1 v3 v4 v16 v17 = gogeom_length1_l0 N n v1 v3 v4 v16 v17
  | 0, _, _, _, _, _ => rfl
  | n + 1, v1, v3, v4, v16, v17 => by
    have h : gogeom_length1_e0 N n v1 v3 v4 = gogeom_length1_l0 N n v1 v3 v4 := by funext v16 v17; exact gogeom_length1_t0 N n v1 v3 v4 v16 v17
    exact (show gogeom_length1_e0 N (n + 1) v1 v3 v4 v16 v17 = gogeom_length1_g0 N v1 v3 v4 (gogeom_length1_e0 N n v1 v3 v4) v16 v17 from by kernel_rfl).trans (by rw [h]; rfl)
theorem gogeom_length1_t (N : Nat) (v1 : (List Nat)) (v2 : Int) (v3 : Int) (v4 : Int) : evF (gogeom_length1_E N) [] Try.f180 [.k (.list .float), .k (.int .i64), .k (.int .i64), .k (.int .i64)] [.float] (v1, v2, v3, v4, ()) = gogeom_length1 N v1 v2 v3 v4 := by
  have h0 : (gogeom_length1_e0 N N) = (gogeom_length1_l0 N N) := by funext v1 v3 v4 v16 v17; exact gogeom_length1_t0 N N v1 v3 v4 v16 v17
  exact (show evF (gogeom_length1_E N) [] Try.f180 [.k (.list .float), .k (.int .i64), .k (.int .i64), .k (.int .i64)] [.float] (v1, v2, v3, v4, ()) = gogeom_length1_g N v1 v2 v3 v4 (gogeom_length1_e0 N N) from by kernel_rfl).trans (by rw [h0]; rfl)
noncomputable def gogeom_length1_con (N : Nat) : Con := ⟨180, [.k (.list .float), .k (.int .i64), .k (.int .i64), .k (.int .i64)], [.float], fun x => gogeom_length1 N x.1 x.2.1 x.2.2.1 x.2.2.2.1⟩
theorem gogeom_length1_s (N : Nat) : (gogeom_length1_con N).Sound Try.prog :=
  Con.sound_of (c := gogeom_length1_con N) (E := (gogeom_length1_E N)) (idle := []) Try.func180 (by kernel_rfl) (by kernel_rfl) ⟨(allCons (math_Sqrt_s N) allNil), allNil⟩ allNil (fun x y h => (gogeom_length1_t N x.1 x.2.1 x.2.2.1 x.2.2.2.1).trans h)
/-- (*pub-orthodrome/pub/gogeom.LineString).Length -/
noncomputable def gogeom_LineString_Length_E (N : Nat) : Env := ⟨Try.prog, N, [gogeom_length1_con N], [(0, ⟨[], [], [0], [], none⟩), (1, ⟨[], [], [0], [], none⟩)], kdL [], []⟩
def gogeom_LineString_Length_g (N : Nat) (v1 : (((Int × (Int × ((List Nat) × (Int × Unit)))) × Unit) × Unit)) : Option ((Nat × Unit)) :=
  ((gogeom_length1 N v1.1.1.2.2.1 0 (v1.1.1.2.2.1.length : Int) v1.1.1.2.1).bind fun v2 => (some (v2, ())))
def gogeom_LineString_Length (N : Nat) (v1 : (((Int × (Int × ((List Nat) × (Int × Unit)))) × Unit) × Unit)) : Option ((Nat × Unit)) :=
  gogeom_LineString_Length_g N v1
set_option maxRecDepth 100000
theorem gogeom_LineString_Length_t (N : Nat) (v1 : (((Int × (Int × ((List Nat) × (Int × Unit)))) × Unit) × Unit)) : evF2 (gogeom_LineString_Length_E N) [] Try.f175 [.lref (.pair (.pair (.pair (.int .i64) (.pair (.int .i64) (.pair (.list .float) (.pair (.int .i64) .unit)))) .unit) .unit)] [⟨[.k .float], [none]⟩] (v1, ()) = gogeom_LineString_Length N v1 := by
  exact (show evF2 (gogeom_LineString_Length_E N) [] Try.f175 [.lref (.pair (.pair (.pair (.int .i64) (.pair (.int .i64) (.pair (.list .float) (.pair (.int .i64) .unit)))) .unit) .unit)] [⟨[.k .float], [none]⟩] (v1, ()) = gogeom_LineString_Length_g N v1 from by kernel_rfl).trans (by rfl)
noncomputable def gogeom_LineString_Length_con (N : Nat) : Con2 := ⟨175, [.lref (.pair (.pair (.pair (.int .i64) (.pair (.int .i64) (.pair (.list .float) (.pair (.int .i64) .unit)))) .unit) .unit)], [⟨[.k .float], [none]⟩], fun x => gogeom_LineString_Length N x.1⟩
theorem gogeom_LineString_Length_s (N : Nat) : (gogeom_LineString_Length_con N).Sound Try.prog :=
  Con2.sound_of (c := gogeom_LineString_Length_con N) (E := (gogeom_LineString_Length_E N)) (idle := []) Try.func175 (by kernel_rfl) (by kernel_rfl) ⟨(allCons (gogeom_length1_s N) allNil), allNil⟩ allNil (fun x y h => (gogeom_LineString_Length_t N x.1).trans h)
/-- (*pub-orthodrome/pub/gogeom.LinearRing).Length -/
noncomputable def gogeom_LinearRing_Length_E (N : Nat) : Env := ⟨Try.prog, N, [gogeom_length1_con N], [(0, ⟨[], [], [0], [], none⟩), (1, ⟨[], [], [0], [], none⟩)], kdL [], []⟩
def gogeom_LinearRing_Length_g (N : Nat) (v1 : (((Int × (Int × ((List Nat) × (Int × Unit)))) × Unit) × Unit)) : Option ((Nat × Unit)) :=
  ((gogeom_length1 N v1.1.1.2.2.1 0 (v1.1.1.2.2.1.length : Int) v1.1.1.2.1).bind fun v2 => (some (v2, ())))
def gogeom_LinearRing_Length (N : Nat) (v1 : (((Int × (Int × ((List Nat) × (Int × Unit)))) × Unit) × Unit)) : Option ((Nat × Unit)) :=
  gogeom_LinearRing_Length_g N v1
set_option maxRecDepth 100000
theorem gogeom_LinearRing_Length_t (N : Nat) (v1 : (((Int × (Int × ((List Nat) × (Int × Unit)))) × Unit) × Unit)) : evF2 (gogeom_LinearRing_Length_E N) [] Try.f184 [.lref (.pair (.pair (.pair (.int .i64) (.pair (.int .i64) (.pair (.list .float) (.pair (.int .i64) .unit)))) .unit) .unit)] [⟨[.k .float], [none]⟩] (v1, ()) = gogeom_LinearRing_Length N v1 := by
  exact (show evF2 (gogeom_LinearRing_Length_E N) [] Try.f184 [.lref (.pair (.pair (.pair (.int .i64) (.pair (.int .i64) (.pair (.list .float) (.pair (.int .i64) .unit)))) .unit) .unit)] [⟨[.k .float], [none]⟩] (v1, ()) = gogeom_LinearRing_Length_g N v1 from by kernel_rfl).trans (by rfl)
noncomputable def gogeom_LinearRing_Length_con (N : Nat) : Con2 := ⟨184, [.lref (.pair (.pair (.pair (.int .i64) (.pair (.int .i64) (.pair (.list .float) (.pair (.int .i64) .unit)))) .unit) .unit)], [⟨[.k .float], [none]⟩], fun x => gogeom_LinearRing_Length N x.1⟩
theorem gogeom_LinearRing_Length_s (N : Nat) : (gogeom_LinearRing_Length_con N).Sound Try.prog :=
  Con2.sound_of (c := gogeom_LinearRing_Length_con N) (E := (gogeom_LinearRing_Length_E N)) (idle := []) Try.func184 (by kernel_rfl) (by kernel_rfl) ⟨(allCons (gogeom_length1_s N) allNil), allNil⟩ allNil (fun x y h => (gogeom_LinearRing_Length_t N x.1).trans h)
/-- pub-orthodrome/pub/gogeom.length2 -/
noncomputable def gogeom_length2_E (N : Nat) : Env := ⟨Try.prog, N, [gogeom_length1_con N], [(0, ⟨[], [], [0, 1, 2, 3], [], none⟩), (1, ⟨[], [], [0, 1, 2, 3], [], none⟩), (2, ⟨[], [], [0, 1, 2, 3, 9], [], none⟩), (3, ⟨[], [], [0, 1, 3, 9, 12, 13, 14], [], none⟩), (4, ⟨[], [], [0, 1, 3, 9, 12, 13, 14], [], none⟩), (5, ⟨[], [], [0, 1, 3, 9, 11, 12, 13, 14], [], none⟩), (6, ⟨[], [], [0, 3, 9, 11, 12, 13, 14], [], none⟩), (7, ⟨[], [], [0, 1, 3, 9, 12, 13, 14], [], none⟩), (8, ⟨[], [], [9], [], none⟩)], kdL [], []⟩
def gogeom_length2_g0 (N : Nat) (v1 : (List Nat)) (v4 : Int) (v3 : (List Int)) (r0 : Int → Nat → Int → Option (Nat)) (v8 : Int) (v9 : Nat) (v10 : Int) : Option (Nat) :=
  (bif (decide ((v10 : Int) < (v3.length : Int))) then ((nth v3 v10).bind fun v11 => ((gogeom_length1 N v1 v8 v11 v4).bind fun v12 => (Ieee.double.add v9 v12).bind fun v13 => ((r0 v11 v13 (IntKind.i64.wrap (v10 + 1)))))) else (some v9))
def gogeom_length2_l0 (N : Nat) : Nat → (List Nat) → Int → (List Int) → Int → Nat → Int → Option (Nat)
  | 0, _, _, _, _, _, _ => none
  | n + 1, v1, v4, v3, v8, v9, v10 => gogeom_length2_g0 N v1 v4 v3 (gogeom_length2_l0 N n v1 v4 v3) v8 v9 v10
def gogeom_length2_g (N : Nat) (v1 : (List Nat)) (v2 : Int) (v3 : (List Int)) (v4 : Int) (c0 : (List Nat) → Int → (List Int) → Int → Nat → Int → Option (Nat)) : Option (Nat) :=
  ((c0 v1 v4 v3 v2 0 0))
def gogeom_length2 (N : Nat) (v1 : (List Nat)) (v2 : Int) (v3 : (List Int)) (v4 : Int) : Option (Nat) :=
  gogeom_length2_g N v1 v2 v3 v4 (gogeom_length2_l0 N N)
set_option maxRecDepth 100000
noncomputable def gogeom_length2_e0 (N : Nat) (n : Nat) (v1 : (List Nat)) (v4 : Int) (v3 : (List Int)) (v8 : Int) (v9 : Nat) (v10 : Int) : Option (HR [.float]) :=
  loopN (advOf (gogeom_length2_E N) (codeAt (bodyOf Try.f196) [1, 1, 0, 1, 0, 0])) (evC (gogeom_length2_E N) (codeAt (bodyOf Try.f196) [1, 1, 0, 1, 0, 0])) n ⟨[(0, .pv (.list .float) v1), (1, .pv (.int .i64) v8), (3, .pv (.int .i64) v4), (9, .pv .float v9), (12, .pv (.list (.int .i64)) v3), (13, .pv (.int .i64) (v3.length : Int)), (14, .pv (.int .i64) v10)], [], []⟩ (kBlock 0 (kSeq (advOf (gogeom_length2_E N) (codeAt (bodyOf Try.f196) [1, 1, 1])) (evC (gogeom_length2_E N) (codeAt (bodyOf Try.f196) [1, 1, 1])) (kEnd (gogeom_length2_E N) [] Try.f196.results.toList [.float])))
theorem gogeom_length2_t0 (N : Nat) : ∀ (n : Nat) (v1 : (List Nat)) (v4 : Int) (v3 : (List Int)) (v8 : Int) (v9 : Nat) (v10 : Int), gogeom_length2_e0 N n v1 v4 v3 v8 v9 v10 = gogeom_length2_l0 N n v1 v4 v3 v8 v9 v10
  | 0, _, _, _, _, _, _ => rfl
  | n + 1, v1, v4, v3, v8, v9, v10 => by
    have h : gogeom_length2_e0 N n v1 v4 v3 = gogeom_length2_l0 N n v1 v4 v3 := by funext v8 v9 v10; exact gogeom_length2_t0 N n v1 v4 v3 v8 v9 v10
    exact (show gogeom_length2_e0 N (n + 1) v1 v4 v3 v8 v9 v10 = gogeom_length2_g0 N v1 v4 v3 (gogeom_length2_e0 N n v1 v4 v3) v8 v9 v10 from by kernel_rfl).trans (by rw [h]; rfl)
theorem gogeom_length2_t (N : Nat) (v1 : (List Nat)) (v2 : Int) (v3 : (List Int)) (v4 : Int) : evF (gogeom_length2_E N) [] Try.f196 [.k (.list .float), .k (.int .i64), .k (.list (.int .i64)), .k (.int .i64)] [.float] (v1, v2, v3, v4, ()) = gogeom_length2 N v1 v2 v3 v4 := by
  have h0 : (gogeom_length2_e0 N N) = (gogeom_length2_l0 N N) := by funext v1 v4 v3 v8 v9 v10; exact gogeom_length2_t0 N N v1 v4 v3 v8 v9 v10
  exact (show evF (gogeom_length2_E N) [] Try.f196 [.k (.list .float), .k (.int .i64), .k (.list (.int .i64)), .k (.int .i64)] [.float] (v1, v2, v3, v4, ()) = gogeom_length2_g N v1 v2 v3 v4 (gogeom_length2_e0 N N) from by kernel_rfl).trans (by rw [h0]; rfl)
noncomputable def gogeom_length2_con (N : Nat) : Con := ⟨196, [.k (.list .float), .k (.int .i64), .k (.list (.int .i64)), .k (.int .i64)], [.float], fun x => gogeom_length2 N x.1 x.2.1 x.2.2.1 x.2.2.2.1⟩
theorem gogeom_length2_s (N : Nat) : (gogeom_length2_con N).Sound Try.prog :=
  Con.sound_of (c := gogeom_length2_con N) (E := (gogeom_length2_E N)) (idle := []) Try.func196 (by kernel_rfl) (by kernel_rfl) ⟨(allCons (gogeom_length1_s N) allNil), allNil⟩ allNil (fun x y h => (gogeom_length2_t N x.1 x.2.1 x.2.2.1 x.2.2.2.1).trans h)
/-- (*pub-orthodrome/pub/gogeom.Polygon).Length -/
noncomputable def gogeom_Polygon_Length_E (N : Nat) : Env := ⟨Try.prog, N, [gogeom_length2_con N], [(0, ⟨[], [], [0], [], none⟩), (1, ⟨[], [], [0], [], none⟩)], kdL [], []⟩
def gogeom_Polygon_Length_g (N : Nat) (v1 : ((((Int × (Int × ((List Nat) × (Int × Unit)))) × Unit) × ((List Int) × Unit)) × Unit)) : Option ((Nat × Unit)) :=
  ((gogeom_length2 N v1.1.1.1.2.2.1 0 v1.1.2.1 v1.1.1.1.2.1).bind fun v2 => (some (v2, ())))
def gogeom_Polygon_Length (N : Nat) (v1 : ((((Int × (Int × ((List Nat) × (Int × Unit)))) × Unit) × ((List Int) × Unit)) × Unit)) : Option ((Nat × Unit)) :=
  gogeom_Polygon_Length_g N v1
set_option maxRecDepth 100000
theorem gogeom_Polygon_Length_t (N : Nat) (v1 : ((((Int × (Int × ((List Nat) × (Int × Unit)))) × Unit) × ((List Int) × Unit)) × Unit)) : evF2 (gogeom_Polygon_Length_E N) [] Try.f194 [.lref (.pair (.pair (.pair (.pair (.int .i64) (.pair (.int .i64) (.pair (.list .float) (.pair (.int .i64) .unit)))) .unit) (.pair (.list (.int .i64)) .unit)) .unit)] [⟨[.k .float], [none]⟩] (v1, ()) = gogeom_Polygon_Length N v1 := by
  exact (show evF2 (gogeom_Polygon_Length_E N) [] Try.f194 [.lref (.pair (.pair (.pair (.pair (.int .i64) (.pair (.int .i64) (.pair (.list .float) (.pair (.int .i64) .unit)))) .unit) (.pair (.list (.int .i64)) .unit)) .unit)] [⟨[.k .float], [none]⟩] (v1, ()) = gogeom_Polygon_Length_g N v1 from by kernel_rfl).trans (by rfl)
noncomputable def gogeom_Polygon_Length_con (N : Nat) : Con2 := ⟨194, [.lref (.pair (.pair (.pair (.pair (.int .i64) (.pair (.int .i64) (.pair (.list .float) (.pair (.int .i64) .unit)))) .unit) (.pair (.list (.int .i64)) .unit)) .unit)], [⟨[.k .float], [none]⟩], fun x => gogeom_Polygon_Length N x.1⟩
theorem gogeom_Polygon_Length_s (N : Nat) : (gogeom_Polygon_Length_con N).Sound Try.prog :=
  Con2.sound_of (c := gogeom_Polygon_Length_con N) (E := (gogeom_Polygon_Length_E N)) (idle := []) Try.func194 (by kernel_rfl) (by kernel_rfl) ⟨(allCons (gogeom_length2_s N) allNil), allNil⟩ allNil (fun x y h => (gogeom_Polygon_Length_t N x.1).trans h)
/-- (*pub-orthodrome/pub/gogeom.MultiLineString).Length -/
noncomputable def gogeom_MultiLineString_Length_E (N : Nat) : Env := ⟨Try.prog, N, [gogeom_length2_con N], [(0, ⟨[], [], [0], [], none⟩), (1, ⟨[], [], [0], [], none⟩)], kdL [], []⟩
def gogeom_MultiLineString_Length_g (N : Nat) (v1 : ((((Int × (Int × ((List Nat) × (Int × Unit)))) × Unit) × ((List Int) × Unit)) × Unit)) : Option ((Nat × Unit)) :=
  ((gogeom_length2 N v1.1.1.1.2.2.1 0 v1.1.2.1 v1.1.1.1.2.1).bind fun v2 => (some (v2, ())))
def gogeom_MultiLineString_Length (N : Nat) (v1 : ((((Int × (Int × ((List Nat) × (Int × Unit)))) × Unit) × ((List Int) × Unit)) × Unit)) : Option ((Nat × Unit)) :=
  gogeom_MultiLineString_Length_g N v1
set_option maxRecDepth 100000
theorem gogeom_MultiLineString_Length_t (N : Nat) (v1 : ((((Int × (Int × ((List Nat) × (Int × Unit)))) × Unit) × ((List Int) × Unit)) × Unit)) : evF2 (gogeom_MultiLineString_Length_E N) [] Try.f198 [.lref (.pair (.pair (.pair (.pair (.int .i64) (.pair (.int .i64) (.pair (.list .float) (.pair (.int .i64) .unit)))) .unit) (.pair (.list (.int .i64)) .unit)) .unit)] [⟨[.k .float], [none]⟩] (v1, ()) = gogeom_MultiLineString_Length N v1 := by
  exact (show evF2 (gogeom_MultiLineString_Length_E N) [] Try.f198 [.lref (.pair (.pair (.pair (.pair (.int .i64) (.pair (.int .i64) (.pair (.list .float) (.pair (.int .i64) .unit)))) .unit) (.pair (.list (.int .i64)) .unit)) .unit)] [⟨[.k .float], [none]⟩] (v1, ()) = gogeom_MultiLineString_Length_g N v1 from by kernel_rfl).trans (by rfl)
noncomputable def gogeom_MultiLineString_Length_con (N : Nat) : Con2 := ⟨198, [.lref (.pair (.pair (.pair (.pair (.int .i64) (.pair (.int .i64) (.pair (.list .float) (.pair (.int .i64) .unit)))) .unit) (.pair (.list (.int .i64)) .unit)) .unit)], [⟨[.k .float], [none]⟩], fun x => gogeom_MultiLineString_Length N x.1⟩
theorem gogeom_MultiLineString_Length_s (N : Nat) : (gogeom_MultiLineString_Length_con N).Sound Try.prog :=
  Con2.sound_of (c := gogeom_MultiLineString_Length_con N) (E := (gogeom_MultiLineString_Length_E N)) (idle := []) Try.func198 (by kernel_rfl) (by kernel_rfl) ⟨(allCons (gogeom_length2_s N) allNil), allNil⟩ allNil (fun x y h => (gogeom_MultiLineString_Length_t N x.1).trans h)
/-- pub-orthodrome/pub/gogeom.length3 -/
noncomputable def gogeom_length3_E (N : Nat) : Env := ⟨Try.prog, N, [gogeom_length2_con N], [(0, ⟨[], [], [0, 1, 2, 3], [], none⟩), (1, ⟨[], [], [0, 1, 2, 3], [], none⟩), (2, ⟨[], [], [0, 1, 2, 3, 9], [], none⟩), (3, ⟨[], [], [0, 1, 3, 9, 12, 13, 14], [], none⟩), (4, ⟨[], [], [0, 1, 3, 9, 12, 13, 14], [], none⟩), (5, ⟨[], [], [0, 1, 3, 9, 11, 12, 13, 14], [], none⟩), (6, ⟨[], [], [0, 3, 9, 11, 12, 13, 14], [], none⟩), (7, ⟨[], [], [0, 1, 3, 9, 12, 13, 14], [], none⟩), (8, ⟨[], [], [9], [], none⟩)], kdL [], []⟩
def gogeom_length3_g0 (N : Nat) (v1 : (List Nat)) (v4 : Int) (v3 : (List (List Int))) (r0 : Int → Nat → Int → Option (Nat)) (v9 : Int) (v10 : Nat) (v11 : Int) : Option (Nat) :=
  (bif (decide ((v11 : Int) < (v3.length : Int))) then ((nth v3 v11).bind fun v12 => ((gogeom_length2 N v1 v9 v12 v4).bind fun v13 => (Ieee.double.add v10 v13).bind fun v14 => ((nth v12 (IntKind.i64.wrap ((v12.length : Int) - 1))).bind fun v15 => ((r0 v15 v14 (IntKind.i64.wrap (v11 + 1))))))) else (some v10))
def gogeom_length3_l0 (N : Nat) : Nat → (List Nat) → Int → (List (List Int)) → Int → Nat → Int → Option (Nat)
  | 0, _, _, _, _, _, _ => none
  | n + 1, v1, v4, v3, v9, v10, v11 => gogeom_length3_g0 N v1 v4 v3 (gogeom_length3_l0 N n v1 v4 v3) v9 v10 v11
def gogeom_length3_g (N : Nat) (v1 : (List Nat)) (v2 : Int) (v3 : (List (List Int))) (v4 : Int) (c0 : (List Nat) → Int → (List (List Int)) → Int → Nat → Int → Option (Nat)) : Option (Nat) :=
  ((c0 v1 v4 v3 v2 0 0))
def gogeom_length3 (N : Nat) (v1 : (List Nat)) (v2 : Int) (v3 : (List (List Int))) (v4 : Int) : Option (Nat) :=
  gogeom_length3_g N v1 v2 v3 v4 (gogeom_length3_l0 N N)
set_option maxRecDepth 100000
noncomputable def gogeom_length3_e0 (N : Nat) (n : Nat) (v1 : (List Nat)) (v4 : Int) (v3 : (List (List Int))) (v9 : Int) (v10 : Nat) (v11 : Int) : Option (HR [.float]) :=
  loopN (advOf (gogeom_length3_E N) (codeAt (bodyOf Try.f204) [1, 1, 0, 1, 0, 0])) (evC (gogeom_length3_E N) (codeAt (bodyOf Try.f204) [1, 1, 0, 1, 0, 0])) n ⟨[(0, .pv (.list .float) v1), (1, .pv (.int .i64) v9), (3, .pv (.int .i64) v4), (9, .pv .float v10), (12, .pv (.list (.list (.int .i64))) v3), (13, .pv (.int .i64) (v3.length : Int)), (14, .pv (.int .i64) v11)], [], []⟩ (kBlock 0 (kSeq (advOf (gogeom_length3_E N) (codeAt (bodyOf Try.f204) [1, 1, 1])) (evC (gogeom_length3_E N) (codeAt (bodyOf Try.f204) [1, 1, 1])) (kEnd (gogeom_length3_E N) [] Try.f204.results.toList [.float])))
theorem gogeom_length3_t0 (N : Nat) : ∀ (n : Nat) (v1 : (List Nat)) (v4 : Int) (v3 : (List (List Int))) (v9 : Int) (v10 : Nat) (v11 : Int), gogeom_length3_e0 N n v1 v4 v3 v9 v10 v11 = gogeom_length3_l0 N n v1 v4 v3 v9 v10 v11
  | 0, _, _, _, _, _, _ => rfl
  | n + 1, v1, v4, v3, v9, v10, v11 => by
    have h : gogeom_length3_e0 N n v1 v4 v3 = gogeom_length3_l0 N n v1 v4 v3 := by funext v9 v10 v11; exact gogeom_length3_t0 N n v1 v4 v3 v9 v10 v11
    exact (show gogeom_length3_e0 N (n + 1) v1 v4 v3 v9 v10 v11 = gogeom_length3_g0 N v1 v4 v3 (gogeom_length3_e0 N n v1 v4 v3) v9 v10 v11 from by kernel_rfl).trans (by rw [h]; rfl)
theorem gogeom_length3_t (N : Nat) (v1 : (List Nat)) (v2 : Int) (v3 : (List (List Int))) (v4 : Int) : evF (gogeom_length3_E N) [] Try.f204 [.k (.list .float), .k (.int .i64), .k (.list (.list (.int .i64))), .k (.int .i64)] [.float] (v1, v2, v3, v4, ()) = gogeom_length3 N v1 v2 v3 v4 := by
  have h0 : (gogeom_length3_e0 N N) = (gogeom_length3_l0 N N) := by funext v1 v4 v3 v9 v10 v11; exact gogeom_length3_t0 N N v1 v4 v3 v9 v10 v11
  exact (show evF (gogeom_length3_E N) [] Try.f204 [.k (.list .float), .k (.int .i64), .k (.list (.list (.int .i64))), .k (.int .i64)] [.float] (v1, v2, v3, v4, ()) = gogeom_length3_g N v1 v2 v3 v4 (gogeom_length3_e0 N N) from by kernel_rfl).trans (by rw [h0]; rfl)
noncomputable def gogeom_length3_con (N : Nat) : Con := ⟨204, [.k (.list .float), .k (.int .i64), .k (.list (.list (.int .i64))), .k (.int .i64)], [.float], fun x => gogeom_length3 N x.1 x.2.1 x.2.2.1 x.2.2.2.1⟩
theorem gogeom_length3_s (N : Nat) : (gogeom_length3_con N).Sound Try.prog :=
  Con.sound_of (c := gogeom_length3_con N) (E := (gogeom_length3_E N)) (idle := []) Try.func204 (by kernel_rfl) (by kernel_rfl) ⟨(allCons (gogeom_length2_s N) allNil), allNil⟩ allNil (fun x y h => (gogeom_length3_t N x.1 x.2.1 x.2.2.1 x.2.2.2.1).trans h)
/-- (*pub-orthodrome/pub/gogeom.MultiPolygon).Length -/
noncomputable def gogeom_MultiPolygon_Length_E (N : Nat) : Env := ⟨Try.prog, N, [gogeom_length3_con N], [(0, ⟨[], [], [0], [], none⟩), (1, ⟨[], [], [0], [], none⟩)], kdL [], []⟩
def gogeom_MultiPolygon_Length_g (N : Nat) (v1 : ((((Int × (Int × ((List Nat) × (Int × Unit)))) × Unit) × ((List (List Int)) × Unit)) × Unit)) : Option ((Nat × Unit)) :=
  ((gogeom_length3 N v1.1.1.1.2.2.1 0 v1.1.2.1 v1.1.1.1.2.1).bind fun v2 => (some (v2, ())))
def gogeom_MultiPolygon_Length (N : Nat) (v1 : ((((Int × (Int × ((List Nat) × (Int × Unit)))) × Unit) × ((List (List Int)) × Unit)) × Unit)) : Option ((Nat × Unit)) :=
  gogeom_MultiPolygon_Length_g N v1
set_option maxRecDepth 100000
theorem gogeom_MultiPolygon_Length_t (N : Nat) (v1 : ((((Int × (Int × ((List Nat) × (Int × Unit)))) × Unit) × ((List (List Int)) × Unit)) × Unit)) : evF2 (gogeom_MultiPolygon_Length_E N) [] Try.f201 [.lref (.pair (.pair (.pair (.pair (.int .i64) (.pair (.int .i64) (.pair (.list .float) (.pair (.int .i64) .unit)))) .unit) (.pair (.list (.list (.int .i64))) .unit)) .unit)] [⟨[.k .float], [none]⟩] (v1, ()) = gogeom_MultiPolygon_Length N v1 := by
  exact (show evF2 (gogeom_MultiPolygon_Length_E N) [] Try.f201 [.lref (.pair (.pair (.pair (.pair (.int .i64) (.pair (.int .i64) (.pair (.list .float) (.pair (.int .i64) .unit)))) .unit) (.pair (.list (.list (.int .i64))) .unit)) .unit)] [⟨[.k .float], [none]⟩] (v1, ()) = gogeom_MultiPolygon_Length_g N v1 from by kernel_rfl).trans (by rfl)
noncomputable def gogeom_MultiPolygon_Length_con (N : Nat) : Con2 := ⟨201, [.lref (.pair (.pair (.pair (.pair (.int .i64) (.pair (.int .i64) (.pair (.list .float) (.pair (.int .i64) .unit)))) .unit) (.pair (.list (.list (.int .i64))) .unit)) .unit)], [⟨[.k .float], [none]⟩], fun x => gogeom_MultiPolygon_Length N x.1⟩
theorem gogeom_MultiPolygon_Length_s (N : Nat) : (gogeom_MultiPolygon_Length_con N).Sound Try.prog :=
  Con2.sound_of (c := gogeom_MultiPolygon_Length_con N) (E := (gogeom_MultiPolygon_Length_E N)) (idle := []) Try.func201 (by kernel_rfl) (by kernel_rfl) ⟨(allCons (gogeom_length3_s N) allNil), allNil⟩ allNil (fun x y h => (gogeom_MultiPolygon_Length_t N x.1).trans h)
/-- pub-orthodrome/impl.Length -/
noncomputable def impl_Length_E (N : Nat) : Env := ⟨Try.prog, N, [], [(0, ⟨[], [], [0], [], none⟩), (1, ⟨[], [], [1, 2, 3], [1, 2, 3], none⟩), (2, ⟨[], [], [1, 2, 3], [1, 2, 3], none⟩), (3, ⟨[], [], [2, 3, 4, 5], [2, 3, 100450, 100451, 100452], none⟩), (4, ⟨[], [], [2, 3, 4, 14], [2, 3, 100450, 100451, 100452], none⟩), (5, ⟨[], [], [2, 3, 4], [2, 3, 100450, 100451, 100452], none⟩)], kdL [], [impl_geometry_con N, gogeom_Point_Length_con N, gogeom_LineString_Length_con N, gogeom_LinearRing_Length_con N, gogeom_Polygon_Length_con N, gogeom_MultiLineString_Length_con N, gogeom_MultiPolygon_Length_con N]⟩
def impl_Length_g (N : Nat) (v1 : Geo) : Option (Nat × Bool) :=
  ((impl_geometry N (Geo.mk v1.kind v1.layout v1.srid v1.flat v1.ends v1.endss v1.kids)).bind fun v2 => Sum.elim (fun v3 => ((gogeom_Point_Length N ((v3.1.1, v3.1.2.1, v3.1.2.2.1, v3.1.2.2.2.1, ()), ())).bind fun v13 => (some (v13.1, true)))) (fun v4 => Sum.elim (fun v5 => ((gogeom_LineString_Length N (((v5.1.1, v5.1.2.1, v5.1.2.2.1, v5.1.2.2.2.1, ()), ()), ())).bind fun v14 => (some (v14.1, true)))) (fun v6 => Sum.elim (fun v7 => ((gogeom_LinearRing_Length N (((v7.1.1, v7.1.2.1, v7.1.2.2.1, v7.1.2.2.2.1, ()), ()), ())).bind fun v15 => (some (v15.1, true)))) (fun v8 => Sum.elim (fun v9 => ((gogeom_Polygon_Length N ((((v9.1.1, v9.1.2.1, v9.1.2.2.1, v9.1.2.2.2.1, ()), ()), v9.1.2.2.2.2.1, ()), ())).bind fun v16 => (some (v16.1, true)))) (fun v10 => Sum.elim (fun v11 => ((gogeom_MultiLineString_Length N ((((v11.1.1, v11.1.2.1, v11.1.2.2.1, v11.1.2.2.2.1, ()), ()), v11.1.2.2.2.2.1, ()), ())).bind fun v17 => (some (v17.1, true)))) (fun v12 => ((gogeom_MultiPolygon_Length N ((((v12.1.1, v12.1.2.1, v12.1.2.2.1, v12.1.2.2.2.1, ()), ()), v12.1.2.2.2.2.1, ()), ())).bind fun v18 => (some (v18.1, true)))) v10) v8) v6) v4) v2)
def impl_Length (N : Nat) (v1 : Geo) : Option (Nat × Bool) :=
  impl_Length_g N v1
set_option maxRecDepth 100000
theorem impl_Length_t (N : Nat) (v1 : Geo) : evF (impl_Length_E N) [78] Try.f38 [.k .geo] [.float, .bool] (v1, ()) = impl_Length N v1 := by
  exact (show evF (impl_Length_E N) [78] Try.f38 [.k .geo] [.float, .bool] (v1, ()) = impl_Length_g N v1 from by kernel_rfl).trans (by rfl)
noncomputable def impl_Length_con (N : Nat) : Con := ⟨38, [.k .geo], [.float, .bool], fun x => impl_Length N x.1⟩
theorem impl_Length_s (N : Nat) : (impl_Length_con N).Sound Try.prog :=
  Con.sound_of (c := impl_Length_con N) (E := (impl_Length_E N)) (idle := [78]) Try.func38 (by kernel_rfl) (by kernel_rfl) ⟨allNil, (allCons (impl_geometry_s N) (allCons (gogeom_Point_Length_s N) (allCons (gogeom_LineString_Length_s N) (allCons (gogeom_LinearRing_Length_s N) (allCons (gogeom_Polygon_Length_s N) (allCons (gogeom_MultiLineString_Length_s N) (allCons (gogeom_MultiPolygon_Length_s N) allNil)))))))⟩ (allCons (idle_of Try.func78 (by kernel_rfl)) allNil) (fun x y h => (impl_Length_t N x.1).trans h)
/-- pub-orthodrome/laws.FnLengthSegment -/
noncomputable def laws_FnLengthSegment_E (N : Nat) : Env := ⟨Try.prog, N, [laws_gCoord_con N, laws_gWhole_con N, impl_Length_con N, math_Sqrt_con N], [(0, ⟨[], [], [0, 1, 2], [], none⟩), (1, ⟨[], [], [0, 1, 2], [], none⟩), (2, ⟨[], [], [0, 1, 2, 18], [], none⟩), (3, ⟨[], [], [0, 1, 2], [], none⟩), (4, ⟨[], [], [0, 1, 2, 56], [], some N⟩), (5, ⟨[], [], [0, 1, 2], [], none⟩), (6, ⟨[], [], [0, 1, 2, 7, 8], [], none⟩), (7, ⟨[], [], [7, 8, 9, 10], [], none⟩)], kdL [(35, .float)], []⟩
def laws_FnLengthSegment_g0 (N : Nat) (v1 : Int) (v2 : (List Nat)) (v3 : (List Nat)) : Option (Bool) :=
  (some true)
def laws_FnLengthSegment_j0 (N : Nat) (v1 : Int) (v2 : (List Nat)) (v3 : (List Nat)) : Option (Bool) :=
  gate N (laws_FnLengthSegment_g0 N v1 v2 v3)
def laws_FnLengthSegment_g (N : Nat) (v1 : Int) (v2 : (List Nat)) (v3 : (List Nat)) (c0 : Int → (List Nat) → (List Nat) → Option (Bool)) : Option (Bool) :=
  (bif (decide (((v2.length : Int) : Int) > 2147483647)) then (some true) else (bif (decide (((v3.length : Int) : Int) > 2147483647)) then (some true) else ((laws_gCoord N v1 v2).bind fun v4 => bif (!v4) then (c0 v1 v2 v3) else ((laws_gCoord N v1 v3).bind fun v5 => bif (!v5) then (c0 v1 v2 v3) else ((nth v2 0).bind fun v6 => (laws_gWhole N v6).bind fun v7 => bif (!v7) then (c0 v1 v2 v3) else ((nth v2 1).bind fun v8 => (laws_gWhole N v8).bind fun v9 => bif (!v9) then (c0 v1 v2 v3) else ((nth v3 0).bind fun v10 => (laws_gWhole N v10).bind fun v11 => bif (!v11) then (c0 v1 v2 v3) else ((nth v3 1).bind fun v12 => (laws_gWhole N v12).bind fun v13 => (gate N (bif (!v13) then (some true) else ((nth v3 0).bind fun v14 => (nth v2 0).bind fun v15 => (Ieee.double.sub v14 v15).bind fun v16 => (nth v3 1).bind fun v17 => (nth v2 1).bind fun v18 => (Ieee.double.sub v17 v18).bind fun v19 => ((lim ((([] : List Nat).length + v2.length) * 8)).bind fun _ => (lim (((([] : List Nat) ++ v2).length + v3.length) * 8)).bind fun _ => (impl_Length N (Geo.mk 2 v1 0 ((([] : List Nat) ++ v2) ++ v3) ([] : List Int) ([] : List (List Int)) ([] : List Geo))).bind fun v20 => (bif v20.2 then ((Ieee.double.mul v16 v16).bind fun v21 => (Ieee.double.mul v19 v19).bind fun v22 => (Ieee.double.add v21 v22).bind fun v23 => (math_Sqrt N v23).bind fun v24 => (some (feq v20.1 v24))) else (some false))))))))))))))
def laws_FnLengthSegment (N : Nat) (v1 : Int) (v2 : (List Nat)) (v3 : (List Nat)) : Option (Bool) :=
  laws_FnLengthSegment_g N v1 v2 v3 (laws_FnLengthSegment_j0 N)
set_option maxRecDepth 100000
noncomputable def laws_FnLengthSegment_e0 (N : Nat) (v1 : Int) (v2 : (List Nat)) (v3 : (List Nat)) : Option (HR [.bool]) :=
  gate N (evC (laws_FnLengthSegment_E N) (codeAt (bodyOf Try.f9) [1, 1, 0, 1]) ⟨[(0, .pv (.int .i64) v1), (1, .pv (.list .float) v2), (2, .pv (.list .float) v3), (56, .pv .bool true)], [], []⟩ (kSeq (advOf (laws_FnLengthSegment_E N) (codeAt (bodyOf Try.f9) [1, 1, 1])) (evC (laws_FnLengthSegment_E N) (codeAt (bodyOf Try.f9) [1, 1, 1])) (kEnd (laws_FnLengthSegment_E N) [] Try.f9.results.toList [.bool])))
theorem laws_FnLengthSegment_t0 (N : Nat) (v1 : Int) (v2 : (List Nat)) (v3 : (List Nat)) : laws_FnLengthSegment_e0 N v1 v2 v3 = laws_FnLengthSegment_j0 N v1 v2 v3 := by
  exact (congrArg (gate N) (show evC (laws_FnLengthSegment_E N) (codeAt (bodyOf Try.f9) [1, 1, 0, 1]) ⟨[(0, .pv (.int .i64) v1), (1, .pv (.list .float) v2), (2, .pv (.list .float) v3), (56, .pv .bool true)], [], []⟩ (kSeq (advOf (laws_FnLengthSegment_E N) (codeAt (bodyOf Try.f9) [1, 1, 1])) (evC (laws_FnLengthSegment_E N) (codeAt (bodyOf Try.f9) [1, 1, 1])) (kEnd (laws_FnLengthSegment_E N) [] Try.f9.results.toList [.bool])) = laws_FnLengthSegment_g0 N v1 v2 v3 from by kernel_rfl)).trans (by rfl)
theorem laws_FnLengthSegment_t (N : Nat) (v1 : Int) (v2 : (List Nat)) (v3 : (List Nat)) : evF (laws_FnLengthSegment_E N) [] Try.f9 [.k (.int .i64), .k (.list .float), .k (.list .float)] [.bool] (v1, v2, v3, ()) = laws_FnLengthSegment N v1 v2 v3 := by
  have h0 : (laws_FnLengthSegment_e0 N) = (laws_FnLengthSegment_j0 N) := by funext v1 v2 v3; exact laws_FnLengthSegment_t0 N v1 v2 v3
  exact (show evF (laws_FnLengthSegment_E N) [] Try.f9 [.k (.int .i64), .k (.list .float), .k (.list .float)] [.bool] (v1, v2, v3, ()) = laws_FnLengthSegment_g N v1 v2 v3 (laws_FnLengthSegment_e0 N) from by kernel_rfl).trans (by rw [h0]; rfl)
noncomputable def laws_FnLengthSegment_con (N : Nat) : Con := ⟨9, [.k (.int .i64), .k (.list .float), .k (.list .float)], [.bool], fun x => laws_FnLengthSegment N x.1 x.2.1 x.2.2.1⟩
theorem laws_FnLengthSegment_s (N : Nat) : (laws_FnLengthSegment_con N).Sound Try.prog :=
  Con.sound_of (c := laws_FnLengthSegment_con N) (E := (laws_FnLengthSegment_E N)) (idle := []) Try.func9 (by kernel_rfl) (by kernel_rfl) ⟨(allCons (laws_gCoord_s N) (allCons (laws_gWhole_s N) (allCons (impl_Length_s N) (allCons (math_Sqrt_s N) allNil)))), allNil⟩ allNil (fun x y h => (laws_FnLengthSegment_t N x.1 x.2.1 x.2.2.1).trans h)
end Go.Proofs.Ytfhplocmlmmnoaa.G9
