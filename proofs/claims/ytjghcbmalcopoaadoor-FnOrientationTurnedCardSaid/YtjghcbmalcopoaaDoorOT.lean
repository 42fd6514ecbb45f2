import Derived.Test.YtjghcbmalcopoaaDoorProg
import Derived.Test.YtjghcbmalcopoaaDoorAv16
import Derived.Test.YtjghcbmalcopoaaDoorAv19
import Derived.Test.YtjghcbmalcopoaaDoorAv20
import Derived.Test.YtjghcbmalcopoaaDoorAv21
import Derived.Test.YtjghcbmalcopoaaDoorAv25
import Derived.Test.YtjghcbmalcopoaaDoorAv31
import Derived.Test.YtjghcbmalcopoaaDoorAv32
import Derived.KernelRfl
set_option linter.unusedVariables false
namespace Go.Proofs.YtjghcbmalcopoaaDoor.OT
open Go Go.Av
/-- The package variables. -/
def gv (N : Nat) : Nat := N - 18446744073709551616
noncomputable def GL (N : Nat) : List Gl := [⟨1, .float, 4382569440205035030⟩]
/-- math.Float64bits -/
def math_Float64bits (N : Nat) (v1 : Nat) : Option Int := some ((v1 : Nat) : Int)
noncomputable def math_Float64bits_con (N : Nat) : Con := ⟨24, [.k .float], [(.int .u64)], fun x => math_Float64bits N x.1⟩
theorem math_Float64bits_s (N : Nat) : (math_Float64bits_con N).Sound Tryd.prog (GL N) := bits_of Tryd.func24 (by kernel_rfl) (by kernel_rfl) (by kernel_rfl) (by kernel_rfl)
/-- math.Float64frombits -/
def math_Float64frombits (N : Nat) (v1 : Int) : Option Nat := some (v1 : Int).toNat
noncomputable def math_Float64frombits_con (N : Nat) : Con := ⟨23, [.k (.int .u64)], [.float], fun x => math_Float64frombits N x.1⟩
theorem math_Float64frombits_s (N : Nat) : (math_Float64frombits_con N).Sound Tryd.prog (GL N) := frombits_of Tryd.func23 (by kernel_rfl) (by kernel_rfl) (by kernel_rfl) (by kernel_rfl)
/-- math.Abs -/
noncomputable def math_Abs_E (N : Nat) : Env := ⟨Tryd.prog, N, [math_Float64bits_con N, math_Float64frombits_con N], [(0, ⟨[], [], [0], [], none⟩), (1, ⟨[], [], [0], [], none⟩)], kdL [], [], [], (GL N)⟩
def math_Abs_g (N : Nat) (v1 : Nat) : Option (Nat) :=
  ((math_Float64bits N v1).bind fun v2 => (math_Float64frombits N (bits .andNot .u64 v2 9223372036854775808)).bind fun v3 => (some v3))
def math_Abs (N : Nat) (v1 : Nat) : Option (Nat) :=
  math_Abs_g N v1
set_option maxRecDepth 100000
theorem math_Abs_t (N : Nat) (v1 : Nat) : evF (math_Abs_E N) [] Tryd.f12 [.k .float] [.float] (v1, ()) = math_Abs N v1 := by
  exact (show evF (math_Abs_E N) [] Tryd.f12 [.k .float] [.float] (v1, ()) = math_Abs_g N v1 from by kernel_rfl).trans (by rfl)
noncomputable def math_Abs_con (N : Nat) : Con := ⟨12, [.k .float], [.float], fun x => math_Abs N x.1⟩
theorem math_Abs_s (N : Nat) : (math_Abs_con N).Sound Tryd.prog (GL N) :=
  Con.sound_of (c := math_Abs_con N) (E := (math_Abs_E N)) (idle := []) Tryd.func12 (by kernel_rfl) (by kernel_rfl) ⟨(allCons (math_Float64bits_s N) (allCons (math_Float64frombits_s N) allNil)), allNil, rfl⟩ allNil (fun x y h => (math_Abs_t N x.1).trans h)
/-- math.archTrunc -/
def math_archTrunc (N : Nat) (v1 : Nat) : Option ((Nat × Unit) ⊕ (Unit × Unit)) := some (fwholeN .zero v1)
noncomputable def math_archTrunc_con (N : Nat) : Con2 := ⟨30, [.k .float], [⟨[.k .float], [none]⟩, ⟨[.nan], [none]⟩], fun x => math_archTrunc N x.1⟩
theorem math_archTrunc_s (N : Nat) : (math_archTrunc_con N).Sound Tryd.prog (GL N) := wholeN_of (name := "math.archTrunc") Tryd.func30 (by kernel_rfl) (by kernel_rfl) (by kernel_rfl) (by kernel_rfl)
/-- math.Trunc -/
noncomputable def math_Trunc_E (N : Nat) : Env := ⟨Tryd.prog, N, [], [(0, ⟨[], [], [0], [], none⟩), (1, ⟨[], [], [0], [], none⟩), (2, ⟨[], [], [0], [], none⟩)], kdL [], [math_archTrunc_con N], [], (GL N)⟩
def math_Trunc_g (N : Nat) (v1 : Nat) : Option ((Nat × Unit) ⊕ (Unit × Unit)) :=
  ((math_archTrunc N v1).bind fun v2 => Sum.elim (fun v3 => (some (Sum.inl (v3.1, ())))) (fun v4 => (some (Sum.inr ((), ())))) v2)
def math_Trunc (N : Nat) (v1 : Nat) : Option ((Nat × Unit) ⊕ (Unit × Unit)) :=
  math_Trunc_g N v1
set_option maxRecDepth 100000
theorem math_Trunc_t (N : Nat) (v1 : Nat) : evF2 (math_Trunc_E N) [] Tryd.f19 [.k .float] [⟨[.k .float], [none]⟩, ⟨[.nan], [none]⟩] (v1, ()) = math_Trunc N v1 := by
  exact (show evF2 (math_Trunc_E N) [] Tryd.f19 [.k .float] [⟨[.k .float], [none]⟩, ⟨[.nan], [none]⟩] (v1, ()) = math_Trunc_g N v1 from by kernel_rfl).trans (by rfl)
noncomputable def math_Trunc_con (N : Nat) : Con2 := ⟨19, [.k .float], [⟨[.k .float], [none]⟩, ⟨[.nan], [none]⟩], fun x => math_Trunc N x.1⟩
theorem math_Trunc_s (N : Nat) : (math_Trunc_con N).Sound Tryd.prog (GL N) :=
  Con2.sound_of (c := math_Trunc_con N) (E := (math_Trunc_E N)) (idle := []) Tryd.func19 (by kernel_rfl) (by kernel_rfl) ⟨allNil, (allCons (math_archTrunc_s N) allNil), rfl⟩ allNil (fun x y h => (math_Trunc_t N x.1).trans h)
/-- pub-orthodrome/laws.wholeTo -/
noncomputable def laws_wholeTo_E (N : Nat) : Env := ⟨Tryd.prog, N, [math_Abs_con N], [(0, ⟨[], [], [0, 1], [], none⟩), (1, ⟨[], [], [0, 1], [], none⟩), (2, ⟨[], [], [0, 7, 8, 9], [], none⟩), (3, ⟨[], [], [0, 7, 8, 9], [], none⟩), (4, ⟨[], [], [0, 6, 7, 8, 9], [], none⟩), (5, ⟨[], [], [0, 7, 8, 9, 22], [], some N⟩), (6, ⟨[], [], [0, 7, 8, 9], [], none⟩), (7, ⟨[], [], [], [], none⟩)], kdL [], [math_Trunc_con N], [], (GL N)⟩
def laws_wholeTo_g1 (N : Nat) (v1 : Nat) (v2 : (List Nat)) (v8 : Int) (r0 : Int → Option (Bool)) : Option (Bool) :=
  (some false)
def laws_wholeTo_j1 (N : Nat) (r0 : Int → Option (Bool)) (v1 : Nat) (v2 : (List Nat)) (v8 : Int) : Option (Bool) :=
  gate N (laws_wholeTo_g1 N v1 v2 v8 r0)
def laws_wholeTo_g0 (N : Nat) (v1 : Nat) (v2 : (List Nat)) (c1 : Int → Option (Bool)) (r0 : Int → Option (Bool)) (v8 : Int) : Option (Bool) :=
  (bif (decide ((v8 : Int) < (v2.length : Int))) then ((nth v2 v8).bind fun v9 => ((math_Trunc N v9).bind fun v10 => Sum.elim (fun v11 => bif (fne v9 v11.1) then (c1 v8) else ((math_Abs N v9).bind fun v13 => (gate N (bif (fgt v13 v1) then (some false) else ((r0 (IntKind.i64.wrap (v8 + 1)))))))) (fun v12 => (c1 v8)) v10)) else (some true))
def laws_wholeTo_l0 (N : Nat) : Nat → Nat → (List Nat) → Int → Option (Bool)
  | 0, _, _, _ => none
  | n + 1, v1, v2, v8 => laws_wholeTo_g0 N v1 v2 (laws_wholeTo_j1 N (laws_wholeTo_l0 N n v1 v2) v1 v2) (laws_wholeTo_l0 N n v1 v2) v8
def laws_wholeTo_g (N : Nat) (v1 : Nat) (v2 : (List Nat)) (c0 : Nat → (List Nat) → Int → Option (Bool)) : Option (Bool) :=
  ((c0 v1 v2 0))
def laws_wholeTo (N : Nat) (v1 : Nat) (v2 : (List Nat)) : Option (Bool) :=
  laws_wholeTo_g N v1 v2 (laws_wholeTo_l0 N N)
set_option maxRecDepth 100000
noncomputable def laws_wholeTo_e1 (N : Nat) (m0 : Nat) (v1 : Nat) (v2 : (List Nat)) (v8 : Int) : Option (HR [.bool]) :=
  gate N (evC (laws_wholeTo_E N) (codeAt (bodyOf Tryd.f13) [1, 0, 1, 0, 0, 1, 1, 0, 0, 1, 1]) ⟨[(0, .pv .float v1), (7, .pv (.list .float) v2), (8, .pv (.int .i64) (v2.length : Int)), (9, .pv (.int .i64) v8), (22, .pv .bool true)], [], []⟩ (kBlock 1 (kSeq (advOf (laws_wholeTo_E N) (codeAt (bodyOf Tryd.f13) [1, 0, 1, 0, 0, 1, 1, 1])) (evC (laws_wholeTo_E N) (codeAt (bodyOf Tryd.f13) [1, 0, 1, 0, 0, 1, 1, 1])) (kSeq (advOf (laws_wholeTo_E N) (codeAt (bodyOf Tryd.f13) [1, 0, 1, 0, 0])) (fun st K => loopN (advOf (laws_wholeTo_E N) (codeAt (bodyOf Tryd.f13) [1, 0, 1, 0, 0])) (evC (laws_wholeTo_E N) (codeAt (bodyOf Tryd.f13) [1, 0, 1, 0, 0])) m0 st K) (kBlock 0 (kSeq (advOf (laws_wholeTo_E N) (codeAt (bodyOf Tryd.f13) [1, 1])) (evC (laws_wholeTo_E N) (codeAt (bodyOf Tryd.f13) [1, 1])) (kEnd (laws_wholeTo_E N) [] Tryd.f13.results.toList [.bool])))))))
noncomputable def laws_wholeTo_e0 (N : Nat) (n : Nat) (v1 : Nat) (v2 : (List Nat)) (v8 : Int) : Option (HR [.bool]) :=
  loopN (advOf (laws_wholeTo_E N) (codeAt (bodyOf Tryd.f13) [1, 0, 1, 0, 0])) (evC (laws_wholeTo_E N) (codeAt (bodyOf Tryd.f13) [1, 0, 1, 0, 0])) n ⟨[(0, .pv .float v1), (7, .pv (.list .float) v2), (8, .pv (.int .i64) (v2.length : Int)), (9, .pv (.int .i64) v8)], [], []⟩ (kBlock 0 (kSeq (advOf (laws_wholeTo_E N) (codeAt (bodyOf Tryd.f13) [1, 1])) (evC (laws_wholeTo_E N) (codeAt (bodyOf Tryd.f13) [1, 1])) (kEnd (laws_wholeTo_E N) [] Tryd.f13.results.toList [.bool])))
theorem laws_wholeTo_t1 (N : Nat) (m0 : Nat) (v1 : Nat) (v2 : (List Nat)) (v8 : Int) : laws_wholeTo_e1 N m0 v1 v2 v8 = laws_wholeTo_j1 N (laws_wholeTo_e0 N m0 v1 v2) v1 v2 v8 := by
  exact (congrArg (gate N) (show evC (laws_wholeTo_E N) (codeAt (bodyOf Tryd.f13) [1, 0, 1, 0, 0, 1, 1, 0, 0, 1, 1]) ⟨[(0, .pv .float v1), (7, .pv (.list .float) v2), (8, .pv (.int .i64) (v2.length : Int)), (9, .pv (.int .i64) v8), (22, .pv .bool true)], [], []⟩ (kBlock 1 (kSeq (advOf (laws_wholeTo_E N) (codeAt (bodyOf Tryd.f13) [1, 0, 1, 0, 0, 1, 1, 1])) (evC (laws_wholeTo_E N) (codeAt (bodyOf Tryd.f13) [1, 0, 1, 0, 0, 1, 1, 1])) (kSeq (advOf (laws_wholeTo_E N) (codeAt (bodyOf Tryd.f13) [1, 0, 1, 0, 0])) (fun st K => loopN (advOf (laws_wholeTo_E N) (codeAt (bodyOf Tryd.f13) [1, 0, 1, 0, 0])) (evC (laws_wholeTo_E N) (codeAt (bodyOf Tryd.f13) [1, 0, 1, 0, 0])) m0 st K) (kBlock 0 (kSeq (advOf (laws_wholeTo_E N) (codeAt (bodyOf Tryd.f13) [1, 1])) (evC (laws_wholeTo_E N) (codeAt (bodyOf Tryd.f13) [1, 1])) (kEnd (laws_wholeTo_E N) [] Tryd.f13.results.toList [.bool])))))) = laws_wholeTo_g1 N v1 v2 v8 (laws_wholeTo_e0 N m0 v1 v2) from by kernel_rfl)).trans (by rfl)
theorem laws_wholeTo_t0 (N : Nat) : ∀ (n : Nat) (v1 : Nat) (v2 : (List Nat)) (v8 : Int), laws_wholeTo_e0 N n v1 v2 v8 = laws_wholeTo_l0 N n v1 v2 v8
  | 0, _, _, _ => rfl
  | n + 1, v1, v2, v8 => by
    have h1 : (laws_wholeTo_e1 N n v1 v2) = (laws_wholeTo_j1 N (laws_wholeTo_e0 N n v1 v2) v1 v2) := by funext v8; exact laws_wholeTo_t1 N n v1 v2 v8
    have h : laws_wholeTo_e0 N n v1 v2 = laws_wholeTo_l0 N n v1 v2 := by funext v8; exact laws_wholeTo_t0 N n v1 v2 v8
    exact (show laws_wholeTo_e0 N (n + 1) v1 v2 v8 = laws_wholeTo_g0 N v1 v2 (laws_wholeTo_e1 N n v1 v2) (laws_wholeTo_e0 N n v1 v2) v8 from by kernel_rfl).trans (by rw [h1, h]; rfl)
theorem laws_wholeTo_t (N : Nat) (v1 : Nat) (v2 : (List Nat)) : evF (laws_wholeTo_E N) [] Tryd.f13 [.k .float, .k (.list .float)] [.bool] (v1, v2, ()) = laws_wholeTo N v1 v2 := by
  have h0 : (laws_wholeTo_e0 N N) = (laws_wholeTo_l0 N N) := by funext v1 v2 v8; exact laws_wholeTo_t0 N N v1 v2 v8
  exact (show evF (laws_wholeTo_E N) [] Tryd.f13 [.k .float, .k (.list .float)] [.bool] (v1, v2, ()) = laws_wholeTo_g N v1 v2 (laws_wholeTo_e0 N N) from by kernel_rfl).trans (by rw [h0]; rfl)
noncomputable def laws_wholeTo_con (N : Nat) : Con := ⟨13, [.k .float, .k (.list .float)], [.bool], fun x => laws_wholeTo N x.1 x.2.1⟩
theorem laws_wholeTo_s (N : Nat) : (laws_wholeTo_con N).Sound Tryd.prog (GL N) :=
  Con.sound_of (c := laws_wholeTo_con N) (E := (laws_wholeTo_E N)) (idle := []) Tryd.func13 (by kernel_rfl) (by kernel_rfl) ⟨(allCons (math_Abs_s N) allNil), (allCons (math_Trunc_s N) allNil), rfl⟩ allNil (fun x y h => (laws_wholeTo_t N x.1 x.2.1).trans h)
/-- pub-orthodrome/laws.planeTo -/
noncomputable def laws_planeTo_E (N : Nat) : Env := ⟨Tryd.prog, N, [laws_wholeTo_con N], [(0, ⟨[], [], [0, 1], [], none⟩), (1, ⟨[], [], [0, 1], [], none⟩), (2, ⟨[], [], [0, 7, 8, 9], [], none⟩), (3, ⟨[], [], [0, 7, 8, 9], [], none⟩), (4, ⟨[], [], [0, 6, 7, 8, 9], [6], none⟩), (5, ⟨[], [], [0, 7, 8, 9, 20], [], none⟩), (6, ⟨[], [], [0, 7, 8, 9], [], none⟩), (7, ⟨[], [], [], [], none⟩)], kdL [(22, .float)], [], [], (GL N)⟩
def laws_planeTo_g0 (N : Nat) (v1 : Nat) (v2 : (List (Nat × (Nat × Unit)))) (r0 : Int → Option (Bool)) (v5 : Int) : Option (Bool) :=
  (bif (decide ((v5 : Int) < (v2.length : Int))) then ((nth v2 v5).bind fun v6 => ((laws_wholeTo N v1 ([v6.1, v6.2.1] : List Nat)).bind fun v7 => (bif (!v7) then (some false) else ((r0 (IntKind.i64.wrap (v5 + 1))))))) else (some true))
def laws_planeTo_l0 (N : Nat) : Nat → Nat → (List (Nat × (Nat × Unit))) → Int → Option (Bool)
  | 0, _, _, _ => none
  | n + 1, v1, v2, v5 => laws_planeTo_g0 N v1 v2 (laws_planeTo_l0 N n v1 v2) v5
def laws_planeTo_g (N : Nat) (v1 : Nat) (v2 : (List (Nat × (Nat × Unit)))) (c0 : Nat → (List (Nat × (Nat × Unit))) → Int → Option (Bool)) : Option (Bool) :=
  ((c0 v1 v2 0))
def laws_planeTo (N : Nat) (v1 : Nat) (v2 : (List (Nat × (Nat × Unit)))) : Option (Bool) :=
  laws_planeTo_g N v1 v2 (laws_planeTo_l0 N N)
set_option maxRecDepth 100000
noncomputable def laws_planeTo_e0 (N : Nat) (n : Nat) (v1 : Nat) (v2 : (List (Nat × (Nat × Unit)))) (v5 : Int) : Option (HR [.bool]) :=
  loopN (advOf (laws_planeTo_E N) (codeAt (bodyOf Tryd.f5) [1, 0, 1, 0, 0])) (evC (laws_planeTo_E N) (codeAt (bodyOf Tryd.f5) [1, 0, 1, 0, 0])) n ⟨[(0, .pv .float v1), (7, .pv (.list (.pair .float (.pair .float .unit))) v2), (8, .pv (.int .i64) (v2.length : Int)), (9, .pv (.int .i64) v5)], [], []⟩ (kBlock 0 (kSeq (advOf (laws_planeTo_E N) (codeAt (bodyOf Tryd.f5) [1, 1])) (evC (laws_planeTo_E N) (codeAt (bodyOf Tryd.f5) [1, 1])) (kEnd (laws_planeTo_E N) [] Tryd.f5.results.toList [.bool])))
theorem laws_planeTo_t0 (N : Nat) : ∀ (n : Nat) (v1 : Nat) (v2 : (List (Nat × (Nat × Unit)))) (v5 : Int), laws_planeTo_e0 N n v1 v2 v5 = laws_planeTo_l0 N n v1 v2 v5
  | 0, _, _, _ => rfl
  | n + 1, v1, v2, v5 => by
    have h : laws_planeTo_e0 N n v1 v2 = laws_planeTo_l0 N n v1 v2 := by funext v5; exact laws_planeTo_t0 N n v1 v2 v5
    exact (show laws_planeTo_e0 N (n + 1) v1 v2 v5 = laws_planeTo_g0 N v1 v2 (laws_planeTo_e0 N n v1 v2) v5 from by kernel_rfl).trans (by rw [h]; rfl)
theorem laws_planeTo_t (N : Nat) (v1 : Nat) (v2 : (List (Nat × (Nat × Unit)))) : evF (laws_planeTo_E N) [] Tryd.f5 [.k .float, .k (.list (.pair .float (.pair .float .unit)))] [.bool] (v1, v2, ()) = laws_planeTo N v1 v2 := by
  have h0 : (laws_planeTo_e0 N N) = (laws_planeTo_l0 N N) := by funext v1 v2 v5; exact laws_planeTo_t0 N N v1 v2 v5
  exact (show evF (laws_planeTo_E N) [] Tryd.f5 [.k .float, .k (.list (.pair .float (.pair .float .unit)))] [.bool] (v1, v2, ()) = laws_planeTo_g N v1 v2 (laws_planeTo_e0 N N) from by kernel_rfl).trans (by rw [h0]; rfl)
noncomputable def laws_planeTo_con (N : Nat) : Con := ⟨5, [.k .float, .k (.list (.pair .float (.pair .float .unit)))], [.bool], fun x => laws_planeTo N x.1 x.2.1⟩
theorem laws_planeTo_s (N : Nat) : (laws_planeTo_con N).Sound Tryd.prog (GL N) :=
  Con.sound_of (c := laws_planeTo_con N) (E := (laws_planeTo_E N)) (idle := []) Tryd.func5 (by kernel_rfl) (by kernel_rfl) ⟨(allCons (laws_wholeTo_s N) allNil), allNil, rfl⟩ allNil (fun x y h => (laws_planeTo_t N x.1 x.2.1).trans h)
/-- pub-orthodrome/pub/gogeom/bigxy.orientationBasedOnSign -/
noncomputable def bigxy_orientationBasedOnSign_E (N : Nat) : Env := ⟨Tryd.prog, N, [], [(0, ⟨[], [], [0], [], none⟩), (1, ⟨[], [], [0], [], none⟩), (2, ⟨[], [], [0, 4], [], none⟩), (3, ⟨[], [], [0], [], none⟩), (4, ⟨[], [], [6], [], none⟩), (5, ⟨[], [], [], [], none⟩)], kdL [], [], [], (GL N)⟩
def bigxy_orientationBasedOnSign_g (N : Nat) (v1 : Nat) : Option (Int) :=
  (bif (fgt v1 0) then (some 1) else (bif (flt v1 0) then (some (-1)) else (some 0)))
def bigxy_orientationBasedOnSign (N : Nat) (v1 : Nat) : Option (Int) :=
  bigxy_orientationBasedOnSign_g N v1
set_option maxRecDepth 100000
theorem bigxy_orientationBasedOnSign_t (N : Nat) (v1 : Nat) : evF (bigxy_orientationBasedOnSign_E N) [] Tryd.f35 [.k .float] [(.int .i64)] (v1, ()) = bigxy_orientationBasedOnSign N v1 := by
  exact (show evF (bigxy_orientationBasedOnSign_E N) [] Tryd.f35 [.k .float] [(.int .i64)] (v1, ()) = bigxy_orientationBasedOnSign_g N v1 from by kernel_rfl).trans (by rfl)
noncomputable def bigxy_orientationBasedOnSign_con (N : Nat) : Con := ⟨35, [.k .float], [(.int .i64)], fun x => bigxy_orientationBasedOnSign N x.1⟩
theorem bigxy_orientationBasedOnSign_s (N : Nat) : (bigxy_orientationBasedOnSign_con N).Sound Tryd.prog (GL N) :=
  Con.sound_of (c := bigxy_orientationBasedOnSign_con N) (E := (bigxy_orientationBasedOnSign_E N)) (idle := []) Tryd.func35 (by kernel_rfl) (by kernel_rfl) ⟨allNil, allNil, rfl⟩ allNil (fun x y h => (bigxy_orientationBasedOnSign_t N x.1).trans h)
/-- pub-orthodrome/pub/gogeom/bigxy.orientationIndexFilter -/
noncomputable def bigxy_orientationIndexFilter_E (N : Nat) : Env := ⟨Tryd.prog, N, [bigxy_orientationBasedOnSign_con N], [(0, ⟨[], [], [0, 1, 2], [], none⟩), (1, ⟨[], [], [0, 1, 2], [], none⟩), (2, ⟨[], [], [0, 1, 2], [], none⟩), (3, ⟨[], [], [0, 1, 2, 8], [], none⟩), (4, ⟨[], [], [8, 9], [], none⟩), (6, ⟨[], [], [8, 9, 10], [], none⟩), (7, ⟨[], [], [8, 9, 10, 47], [], none⟩), (8, ⟨[], [], [8, 9, 10, 51], [], none⟩), (9, ⟨[], [], [8, 9, 10], [], none⟩), (11, ⟨[], [], [8, 9, 10, 57], [], none⟩), (12, ⟨[], [], [8, 9, 10, 61], [], none⟩), (13, ⟨[], [], [8, 9, 10], [], none⟩), (14, ⟨[], [], [7, 10], [], some N⟩), (15, ⟨[], [], [10, 11], [], none⟩), (16, ⟨[], [], [10, 79], [], none⟩), (17, ⟨[], [], [], [], none⟩)], kdL [], [], [], (GL N)⟩
def bigxy_orientationIndexFilter_g0 (N : Nat) (v18 : Nat) (v24 : Nat) : Option (Int) :=
  (Ieee.double.mul 4382569440205035030 v24).bind fun v25 => (bif (fge v18 v25) then ((bigxy_orientationBasedOnSign N v18).bind fun v26 => (some v26)) else (bif (fge (fneg v18) v25) then ((bigxy_orientationBasedOnSign N v18).bind fun v27 => (some v27)) else (some 2)))
def bigxy_orientationIndexFilter_j0 (N : Nat) (v18 : Nat) (v24 : Nat) : Option (Int) :=
  gate N (bigxy_orientationIndexFilter_g0 N v18 v24)
def bigxy_orientationIndexFilter_g (N : Nat) (v1 : (List Nat)) (v2 : (List Nat)) (v3 : (List Nat)) (c0 : Nat → Nat → Option (Int)) : Option (Int) :=
  ((nth v1 0).bind fun v4 => (nth v3 0).bind fun v5 => (Ieee.double.sub v4 v5).bind fun v6 => (nth v2 1).bind fun v7 => (nth v3 1).bind fun v8 => (Ieee.double.sub v7 v8).bind fun v9 => (Ieee.double.mul v6 v9).bind fun v10 => ((nth v1 1).bind fun v11 => (nth v3 1).bind fun v12 => (Ieee.double.sub v11 v12).bind fun v13 => (nth v2 0).bind fun v14 => (nth v3 0).bind fun v15 => (Ieee.double.sub v14 v15).bind fun v16 => (Ieee.double.mul v13 v16).bind fun v17 => ((Ieee.double.sub v10 v17).bind fun v18 => (bif (fgt v10 0) then (bif (fle v17 0) then ((bigxy_orientationBasedOnSign N v18).bind fun v19 => (some v19)) else ((Ieee.double.add v10 v17).bind fun v20 => (c0 v18 v20))) else (bif (flt v10 0) then (bif (fge v17 0) then ((bigxy_orientationBasedOnSign N v18).bind fun v21 => (some v21)) else ((Ieee.double.sub (fneg v10) v17).bind fun v22 => (c0 v18 v22))) else ((bigxy_orientationBasedOnSign N v18).bind fun v23 => (some v23)))))))
def bigxy_orientationIndexFilter (N : Nat) (v1 : (List Nat)) (v2 : (List Nat)) (v3 : (List Nat)) : Option (Int) :=
  bigxy_orientationIndexFilter_g N v1 v2 v3 (bigxy_orientationIndexFilter_j0 N)
set_option maxRecDepth 100000
noncomputable def bigxy_orientationIndexFilter_e0 (N : Nat) (v18 : Nat) (v24 : Nat) : Option (HR [(.int .i64)]) :=
  gate N (evC (bigxy_orientationIndexFilter_E N) (codeAt (bodyOf Tryd.f34) [1, 1, 1, 1, 1, 1]) ⟨[(7, .pv .float v24), (10, .pv .float v18)], [], []⟩ (kEnd (bigxy_orientationIndexFilter_E N) [] Tryd.f34.results.toList [(.int .i64)]))
theorem bigxy_orientationIndexFilter_t0 (N : Nat) (v18 : Nat) (v24 : Nat) : bigxy_orientationIndexFilter_e0 N v18 v24 = bigxy_orientationIndexFilter_j0 N v18 v24 := by
  exact (congrArg (gate N) (show evC (bigxy_orientationIndexFilter_E N) (codeAt (bodyOf Tryd.f34) [1, 1, 1, 1, 1, 1]) ⟨[(7, .pv .float v24), (10, .pv .float v18)], [], []⟩ (kEnd (bigxy_orientationIndexFilter_E N) [] Tryd.f34.results.toList [(.int .i64)]) = bigxy_orientationIndexFilter_g0 N v18 v24 from by kernel_rfl)).trans (by rfl)
theorem bigxy_orientationIndexFilter_t (N : Nat) (v1 : (List Nat)) (v2 : (List Nat)) (v3 : (List Nat)) : evF (bigxy_orientationIndexFilter_E N) [] Tryd.f34 [.k (.list .float), .k (.list .float), .k (.list .float)] [(.int .i64)] (v1, v2, v3, ()) = bigxy_orientationIndexFilter N v1 v2 v3 := by
  have h0 : (bigxy_orientationIndexFilter_e0 N) = (bigxy_orientationIndexFilter_j0 N) := by funext v18 v24; exact bigxy_orientationIndexFilter_t0 N v18 v24
  exact (show evF (bigxy_orientationIndexFilter_E N) [] Tryd.f34 [.k (.list .float), .k (.list .float), .k (.list .float)] [(.int .i64)] (v1, v2, v3, ()) = bigxy_orientationIndexFilter_g N v1 v2 v3 (bigxy_orientationIndexFilter_e0 N) from by kernel_rfl).trans (by rw [h0]; rfl)
noncomputable def bigxy_orientationIndexFilter_con (N : Nat) : Con := ⟨34, [.k (.list .float), .k (.list .float), .k (.list .float)], [(.int .i64)], fun x => bigxy_orientationIndexFilter N x.1 x.2.1 x.2.2.1⟩
theorem bigxy_orientationIndexFilter_s (N : Nat) : (bigxy_orientationIndexFilter_con N).Sound Tryd.prog (GL N) :=
  Con.sound_of (c := bigxy_orientationIndexFilter_con N) (E := (bigxy_orientationIndexFilter_E N)) (idle := []) Tryd.func34 (by kernel_rfl) (by kernel_rfl) ⟨(allCons (bigxy_orientationBasedOnSign_s N) allNil), allNil, rfl⟩ allNil (fun x y h => (bigxy_orientationIndexFilter_t N x.1 x.2.1 x.2.2.1).trans h)
/-- pub-orthodrome/pub/gogeom/bigxy.OrientationIndex -/
noncomputable def bigxy_OrientationIndex_E (N : Nat) : Env := ⟨Tryd.prog, N, [bigxy_orientationIndexFilter_con N, bigxy_orientationBasedOnSign_con N], [(0, ⟨[], [], [0, 1, 2], [], none⟩), (1, ⟨[], [], [0, 1, 2], [], none⟩), (2, ⟨[], [], [0, 1, 2, 7], [], none⟩), (3, ⟨[], [], [0, 1, 2, 7, 19], [], none⟩), (4, ⟨[], [], [0, 1, 2], [], none⟩), (5, ⟨[], [], [0, 1, 2, 8], [], none⟩), (6, ⟨[], [], [1, 2, 8, 9], [], none⟩), (7, ⟨[], [], [1, 2, 8, 9, 10], [], none⟩), (8, ⟨[], [], [8, 9, 10, 11], [], none⟩), (9, ⟨[], [], [9, 10, 12], [], none⟩), (10, ⟨[], [], [12, 13], [], none⟩)], kdL [], [], [], (GL N)⟩
def bigxy_OrientationIndex_g (N : Nat) (v1 : (List Nat)) (v2 : (List Nat)) (v3 : (List Nat)) : Option (Int) :=
  ((bigxy_orientationIndexFilter N v1 v2 v3).bind fun v4 => (bif (decide ((v4 : Int) ≤ 1)) then (some v4) else ((nth v2 0).bind fun v5 => (nth v1 0).bind fun v6 => (Ieee.double.sub v5 v6).bind fun v7 => ((nth v2 1).bind fun v8 => (nth v1 1).bind fun v9 => (Ieee.double.sub v8 v9).bind fun v10 => ((nth v3 0).bind fun v11 => (nth v2 0).bind fun v12 => (Ieee.double.sub v11 v12).bind fun v13 => ((nth v3 1).bind fun v14 => (nth v2 1).bind fun v15 => (Ieee.double.sub v14 v15).bind fun v16 => ((Ieee.double.mul v7 v16).bind fun v17 => ((Ieee.double.mul v10 v13).bind fun v18 => ((Ieee.double.sub v17 v18).bind fun v19 => (bigxy_orientationBasedOnSign N v19).bind fun v20 => (some v20))))))))))
def bigxy_OrientationIndex (N : Nat) (v1 : (List Nat)) (v2 : (List Nat)) (v3 : (List Nat)) : Option (Int) :=
  bigxy_OrientationIndex_g N v1 v2 v3
set_option maxRecDepth 100000
theorem bigxy_OrientationIndex_t (N : Nat) (v1 : (List Nat)) (v2 : (List Nat)) (v3 : (List Nat)) : evF (bigxy_OrientationIndex_E N) [] Tryd.f25 [.k (.list .float), .k (.list .float), .k (.list .float)] [(.int .i64)] (v1, v2, v3, ()) = bigxy_OrientationIndex N v1 v2 v3 := by
  exact (show evF (bigxy_OrientationIndex_E N) [] Tryd.f25 [.k (.list .float), .k (.list .float), .k (.list .float)] [(.int .i64)] (v1, v2, v3, ()) = bigxy_OrientationIndex_g N v1 v2 v3 from by kernel_rfl).trans (by rfl)
noncomputable def bigxy_OrientationIndex_con (N : Nat) : Con := ⟨25, [.k (.list .float), .k (.list .float), .k (.list .float)], [(.int .i64)], fun x => bigxy_OrientationIndex N x.1 x.2.1 x.2.2.1⟩
theorem bigxy_OrientationIndex_s (N : Nat) : (bigxy_OrientationIndex_con N).Sound Tryd.prog (GL N) :=
  Con.sound_of (c := bigxy_OrientationIndex_con N) (E := (bigxy_OrientationIndex_E N)) (idle := []) Tryd.func25 (by kernel_rfl) (by kernel_rfl) ⟨(allCons (bigxy_orientationIndexFilter_s N) (allCons (bigxy_orientationBasedOnSign_s N) allNil)), allNil, rfl⟩ allNil (fun x y h => (bigxy_OrientationIndex_t N x.1 x.2.1 x.2.2.1).trans h)
/-- pub-orthodrome/pub/gogeom/xy.OrientationIndex -/
noncomputable def xy_OrientationIndex_E (N : Nat) : Env := ⟨Tryd.prog, N, [bigxy_OrientationIndex_con N], [(0, ⟨[], [], [0, 1, 2], [], none⟩), (1, ⟨[], [], [0, 1, 2], [], none⟩)], kdL [], [], [], (GL N)⟩
def xy_OrientationIndex_g (N : Nat) (v1 : (List Nat)) (v2 : (List Nat)) (v3 : (List Nat)) : Option (Int) :=
  ((bigxy_OrientationIndex N v1 v2 v3).bind fun v4 => (some v4))
def xy_OrientationIndex (N : Nat) (v1 : (List Nat)) (v2 : (List Nat)) (v3 : (List Nat)) : Option (Int) :=
  xy_OrientationIndex_g N v1 v2 v3
set_option maxRecDepth 100000
theorem xy_OrientationIndex_t (N : Nat) (v1 : (List Nat)) (v2 : (List Nat)) (v3 : (List Nat)) : evF (xy_OrientationIndex_E N) [] Tryd.f14 [.k (.list .float), .k (.list .float), .k (.list .float)] [(.int .i64)] (v1, v2, v3, ()) = xy_OrientationIndex N v1 v2 v3 := by
  exact (show evF (xy_OrientationIndex_E N) [] Tryd.f14 [.k (.list .float), .k (.list .float), .k (.list .float)] [(.int .i64)] (v1, v2, v3, ()) = xy_OrientationIndex_g N v1 v2 v3 from by kernel_rfl).trans (by rfl)
noncomputable def xy_OrientationIndex_con (N : Nat) : Con := ⟨14, [.k (.list .float), .k (.list .float), .k (.list .float)], [(.int .i64)], fun x => xy_OrientationIndex N x.1 x.2.1 x.2.2.1⟩
theorem xy_OrientationIndex_s (N : Nat) : (xy_OrientationIndex_con N).Sound Tryd.prog (GL N) :=
  Con.sound_of (c := xy_OrientationIndex_con N) (E := (xy_OrientationIndex_E N)) (idle := []) Tryd.func14 (by kernel_rfl) (by kernel_rfl) ⟨(allCons (bigxy_OrientationIndex_s N) allNil), allNil, rfl⟩ allNil (fun x y h => (xy_OrientationIndex_t N x.1 x.2.1 x.2.2.1).trans h)
/-- pub-orthodrome/impl.coord -/
noncomputable def impl_coord_E (N : Nat) : Env := ⟨Tryd.prog, N, [], [(0, ⟨[], [], [0], [], none⟩), (1, ⟨[], [], [1], [1], none⟩)], kdL [(22, .float)], [], [], (GL N)⟩
def impl_coord_g (N : Nat) (v1 : (Nat × (Nat × Unit))) : Option (((List Nat) × Unit)) :=
  (some (([v1.1, v1.2.1] : List Nat), ()))
def impl_coord (N : Nat) (v1 : (Nat × (Nat × Unit))) : Option (((List Nat) × Unit)) :=
  impl_coord_g N v1
set_option maxRecDepth 100000
theorem impl_coord_t (N : Nat) (v1 : (Nat × (Nat × Unit))) : evF2 (impl_coord_E N) [] Tryd.f15 [.k (.pair .float (.pair .float .unit))] [⟨[.row 22 .float], [none]⟩] (v1, ()) = impl_coord N v1 := by
  exact (show evF2 (impl_coord_E N) [] Tryd.f15 [.k (.pair .float (.pair .float .unit))] [⟨[.row 22 .float], [none]⟩] (v1, ()) = impl_coord_g N v1 from by kernel_rfl).trans (by rfl)
noncomputable def impl_coord_con (N : Nat) : Con2 := ⟨15, [.k (.pair .float (.pair .float .unit))], [⟨[.row 22 .float], [none]⟩], fun x => impl_coord N x.1⟩
theorem impl_coord_s (N : Nat) : (impl_coord_con N).Sound Tryd.prog (GL N) :=
  Con2.sound_of (c := impl_coord_con N) (E := (impl_coord_E N)) (idle := []) Tryd.func15 (by kernel_rfl) (by kernel_rfl) ⟨allNil, allNil, rfl⟩ allNil (fun x y h => (impl_coord_t N x.1).trans h)
/-- pub-orthodrome/impl.Orientation -/
noncomputable def impl_Orientation_E (N : Nat) : Env := ⟨Tryd.prog, N, [xy_OrientationIndex_con N], [(0, ⟨[], [], [0, 1, 2], [], none⟩), (1, ⟨[], [], [3, 4, 5], [3, 4, 5], none⟩)], kdL [], [impl_coord_con N], [], (GL N)⟩
def impl_Orientation_g (N : Nat) (v1 : (Nat × (Nat × Unit))) (v2 : (Nat × (Nat × Unit))) (v3 : (Nat × (Nat × Unit))) : Option (Int) :=
  ((impl_coord N (v1.1, v1.2.1, ())).bind fun v4 => (impl_coord N (v2.1, v2.2.1, ())).bind fun v5 => (impl_coord N (v3.1, v3.2.1, ())).bind fun v6 => (xy_OrientationIndex N v4.1 v5.1 v6.1).bind fun v7 => (some v7))
def impl_Orientation (N : Nat) (v1 : (Nat × (Nat × Unit))) (v2 : (Nat × (Nat × Unit))) (v3 : (Nat × (Nat × Unit))) : Option (Int) :=
  impl_Orientation_g N v1 v2 v3
set_option maxRecDepth 100000
theorem impl_Orientation_t (N : Nat) (v1 : (Nat × (Nat × Unit))) (v2 : (Nat × (Nat × Unit))) (v3 : (Nat × (Nat × Unit))) : evF (impl_Orientation_E N) [] Tryd.f6 [.k (.pair .float (.pair .float .unit)), .k (.pair .float (.pair .float .unit)), .k (.pair .float (.pair .float .unit))] [(.int .i64)] (v1, v2, v3, ()) = impl_Orientation N v1 v2 v3 := by
  exact (show evF (impl_Orientation_E N) [] Tryd.f6 [.k (.pair .float (.pair .float .unit)), .k (.pair .float (.pair .float .unit)), .k (.pair .float (.pair .float .unit))] [(.int .i64)] (v1, v2, v3, ()) = impl_Orientation_g N v1 v2 v3 from by kernel_rfl).trans (by rfl)
noncomputable def impl_Orientation_con (N : Nat) : Con := ⟨6, [.k (.pair .float (.pair .float .unit)), .k (.pair .float (.pair .float .unit)), .k (.pair .float (.pair .float .unit))], [(.int .i64)], fun x => impl_Orientation N x.1 x.2.1 x.2.2.1⟩
theorem impl_Orientation_s (N : Nat) : (impl_Orientation_con N).Sound Tryd.prog (GL N) :=
  Con.sound_of (c := impl_Orientation_con N) (E := (impl_Orientation_E N)) (idle := []) Tryd.func6 (by kernel_rfl) (by kernel_rfl) ⟨(allCons (xy_OrientationIndex_s N) allNil), (allCons (impl_coord_s N) allNil), rfl⟩ allNil (fun x y h => (impl_Orientation_t N x.1 x.2.1 x.2.2.1).trans h)
/-- pub-orthodrome/spec.trim -/
noncomputable def spec_trim_E (N : Nat) : Env := ⟨Tryd.prog, N, [], [(0, ⟨[], [], [0], [], none⟩), (1, ⟨[], [], [0], [], none⟩), (2, ⟨[], [], [0], [], none⟩), (3, ⟨[], [], [0], [], some N⟩)], kdL [], [], [], (GL N)⟩
def spec_trim_g1 (N : Nat) (v4 : (List Int)) : Option ((List Int)) :=
  (some v4)
def spec_trim_j1 (N : Nat) (v4 : (List Int)) : Option ((List Int)) :=
  gate N (spec_trim_g1 N v4)
def spec_trim_g0 (N : Nat) (c1 : (List Int) → Option ((List Int))) (r0 : (List Int) → Option ((List Int))) (v4 : (List Int)) : Option ((List Int)) :=
  bif (decide (((v4.length : Int) : Int) > 0)) then ((nth v4 (IntKind.i64.wrap ((v4.length : Int) - 1))).bind fun v5 => (bif (v5 == 0) then ((chk2 0 (IntKind.i64.wrap ((v4.length : Int) - 1)) v4.length).bind fun v6 => (r0 ((v4.drop v6.1).take (v6.2 - v6.1)))) else (c1 v4))) else (c1 v4)
def spec_trim_l0 (N : Nat) : Nat → (List Int) → Option ((List Int))
  | 0, _ => none
  | n + 1, v4 => spec_trim_g0 N (spec_trim_j1 N) (spec_trim_l0 N n) v4
def spec_trim_g (N : Nat) (v1 : (List Int)) (c0 : (List Int) → Option ((List Int))) : Option ((List Int)) :=
  ((c0 v1))
def spec_trim (N : Nat) (v1 : (List Int)) : Option ((List Int)) :=
  spec_trim_g N v1 (spec_trim_l0 N N)
set_option maxRecDepth 100000
noncomputable def spec_trim_e1 (N : Nat) (v4 : (List Int)) : Option (HR [(.list (.int .u32))]) :=
  gate N (evC (spec_trim_E N) (codeAt (bodyOf Tryd.f48) [1, 1]) ⟨[(0, .pv (.list (.int .u32)) v4)], [], []⟩ (kEnd (spec_trim_E N) [] Tryd.f48.results.toList [(.list (.int .u32))]))
noncomputable def spec_trim_e0 (N : Nat) (n : Nat) (v4 : (List Int)) : Option (HR [(.list (.int .u32))]) :=
  loopN (advOf (spec_trim_E N) (codeAt (bodyOf Tryd.f48) [1, 0, 0, 0])) (evC (spec_trim_E N) (codeAt (bodyOf Tryd.f48) [1, 0, 0, 0])) n ⟨[(0, .pv (.list (.int .u32)) v4)], [], []⟩ (kBlock 0 (kSeq (advOf (spec_trim_E N) (codeAt (bodyOf Tryd.f48) [1, 1])) (evC (spec_trim_E N) (codeAt (bodyOf Tryd.f48) [1, 1])) (kEnd (spec_trim_E N) [] Tryd.f48.results.toList [(.list (.int .u32))])))
theorem spec_trim_t1 (N : Nat) (v4 : (List Int)) : spec_trim_e1 N v4 = spec_trim_j1 N v4 := by
  exact (congrArg (gate N) (show evC (spec_trim_E N) (codeAt (bodyOf Tryd.f48) [1, 1]) ⟨[(0, .pv (.list (.int .u32)) v4)], [], []⟩ (kEnd (spec_trim_E N) [] Tryd.f48.results.toList [(.list (.int .u32))]) = spec_trim_g1 N v4 from by kernel_rfl)).trans (by rfl)
theorem spec_trim_t0 (N : Nat) : ∀ (n : Nat) (v4 : (List Int)), spec_trim_e0 N n v4 = spec_trim_l0 N n v4
  | 0, _ => rfl
  | n + 1, v4 => by
    have h1 : (spec_trim_e1 N) = (spec_trim_j1 N) := by funext v4; exact spec_trim_t1 N v4
    have h : spec_trim_e0 N n = spec_trim_l0 N n := by funext v4; exact spec_trim_t0 N n v4
    exact (show spec_trim_e0 N (n + 1) v4 = spec_trim_g0 N (spec_trim_e1 N) (spec_trim_e0 N n) v4 from by kernel_rfl).trans (by rw [h1, h]; rfl)
theorem spec_trim_t (N : Nat) (v1 : (List Int)) : evF (spec_trim_E N) [] Tryd.f48 [.k (.list (.int .u32))] [(.list (.int .u32))] (v1, ()) = spec_trim N v1 := by
  have h0 : (spec_trim_e0 N N) = (spec_trim_l0 N N) := by funext v4; exact spec_trim_t0 N N v4
  exact (show evF (spec_trim_E N) [] Tryd.f48 [.k (.list (.int .u32))] [(.list (.int .u32))] (v1, ()) = spec_trim_g N v1 (spec_trim_e0 N N) from by kernel_rfl).trans (by rw [h0]; rfl)
noncomputable def spec_trim_con (N : Nat) : Con := ⟨48, [.k (.list (.int .u32))], [(.list (.int .u32))], fun x => spec_trim N x.1⟩
theorem spec_trim_s (N : Nat) : (spec_trim_con N).Sound Tryd.prog (GL N) :=
  Con.sound_of (c := spec_trim_con N) (E := (spec_trim_E N)) (idle := []) Tryd.func48 (by kernel_rfl) (by kernel_rfl) ⟨allNil, allNil, rfl⟩ allNil (fun x y h => (spec_trim_t N x.1).trans h)
/-- pub-orthodrome/spec.WholeOf -/
noncomputable def spec_WholeOf_E (N : Nat) : Env := ⟨Tryd.prog, N, [spec_trim_con N], [(0, ⟨[], [], [0], [], none⟩), (1, ⟨[], [], [0, 2], [2], none⟩), (2, ⟨[], [], [0, 2, 3], [2], none⟩), (3, ⟨[], [], [0, 2, 3, 7], [2], none⟩), (4, ⟨[], [], [0, 2, 3], [2], some N⟩)], kdL [(78, (.int .u32))], [], [], (GL N)⟩
def spec_WholeOf_g0 (N : Nat) (v1 : Int) (v2 : Int) : Option ((Bool × ((List Int) × Unit))) :=
  (spec_trim N ([(IntKind.u32.wrap v2), (IntKind.u32.wrap (Int.fdiv v2 (2 ^ (min (32 : Int).toNat (IntKind.bits .u64)))))] : List Int)).bind fun v3 => (some ((decide ((v1 : Int) < 0)), v3, ()))
def spec_WholeOf_j0 (N : Nat) (v1 : Int) (v2 : Int) : Option ((Bool × ((List Int) × Unit))) :=
  gate N (spec_WholeOf_g0 N v1 v2)
def spec_WholeOf_g (N : Nat) (v1 : Int) (c0 : Int → Int → Option ((Bool × ((List Int) × Unit)))) : Option ((Bool × ((List Int) × Unit))) :=
  (bif (decide ((v1 : Int) < 0)) then (c0 v1 (IntKind.u64.wrap (0 - (IntKind.u64.wrap v1)))) else (c0 v1 (IntKind.u64.wrap v1)))
def spec_WholeOf (N : Nat) (v1 : Int) : Option ((Bool × ((List Int) × Unit))) :=
  spec_WholeOf_g N v1 (spec_WholeOf_j0 N)
set_option maxRecDepth 100000
noncomputable def spec_WholeOf_e0 (N : Nat) (v1 : Int) (v2 : Int) : Option (HR [(.pair .bool (.pair (.list (.int .u32)) .unit))]) :=
  gate N (evC (spec_WholeOf_E N) (codeAt (bodyOf Tryd.f39) [1, 1, 1]) ⟨[(0, .pv (.int .i64) v1), (2, .ref 2 0), (3, .pv (.int .u64) v2)], [(2, .box [.pv .bool false, .nils])], []⟩ (kEnd (spec_WholeOf_E N) [] Tryd.f39.results.toList [(.pair .bool (.pair (.list (.int .u32)) .unit))]))
theorem spec_WholeOf_t0 (N : Nat) (v1 : Int) (v2 : Int) : spec_WholeOf_e0 N v1 v2 = spec_WholeOf_j0 N v1 v2 := by
  exact (congrArg (gate N) (show evC (spec_WholeOf_E N) (codeAt (bodyOf Tryd.f39) [1, 1, 1]) ⟨[(0, .pv (.int .i64) v1), (2, .ref 2 0), (3, .pv (.int .u64) v2)], [(2, .box [.pv .bool false, .nils])], []⟩ (kEnd (spec_WholeOf_E N) [] Tryd.f39.results.toList [(.pair .bool (.pair (.list (.int .u32)) .unit))]) = spec_WholeOf_g0 N v1 v2 from by kernel_rfl)).trans (by rfl)
theorem spec_WholeOf_t (N : Nat) (v1 : Int) : evF (spec_WholeOf_E N) [] Tryd.f39 [.k (.int .i64)] [(.pair .bool (.pair (.list (.int .u32)) .unit))] (v1, ()) = spec_WholeOf N v1 := by
  have h0 : (spec_WholeOf_e0 N) = (spec_WholeOf_j0 N) := by funext v1 v2; exact spec_WholeOf_t0 N v1 v2
  exact (show evF (spec_WholeOf_E N) [] Tryd.f39 [.k (.int .i64)] [(.pair .bool (.pair (.list (.int .u32)) .unit))] (v1, ()) = spec_WholeOf_g N v1 (spec_WholeOf_e0 N) from by kernel_rfl).trans (by rw [h0]; rfl)
noncomputable def spec_WholeOf_con (N : Nat) : Con := ⟨39, [.k (.int .i64)], [(.pair .bool (.pair (.list (.int .u32)) .unit))], fun x => spec_WholeOf N x.1⟩
theorem spec_WholeOf_s (N : Nat) : (spec_WholeOf_con N).Sound Tryd.prog (GL N) :=
  Con.sound_of (c := spec_WholeOf_con N) (E := (spec_WholeOf_E N)) (idle := []) Tryd.func39 (by kernel_rfl) (by kernel_rfl) ⟨(allCons (spec_trim_s N) allNil), allNil, rfl⟩ allNil (fun x y h => (spec_WholeOf_t N x.1).trans h)
/-- pub-orthodrome/spec.DyadicOf -/
noncomputable def spec_DyadicOf_E (N : Nat) : Env := ⟨Tryd.prog, N, [math_Float64bits_con N, spec_WholeOf_con N], [(0, ⟨[], [], [0], [], none⟩), (1, ⟨[], [], [0, 2], [2], none⟩), (2, ⟨[], [], [2, 3], [2], none⟩), (3, ⟨[], [], [2, 3, 4, 5], [2], none⟩), (5, ⟨[], [], [2, 3, 4, 5, 15], [2], none⟩), (6, ⟨[], [], [2, 3, 4, 5, 15, 18], [2], none⟩), (8, ⟨[], [], [2, 3, 4, 5, 21], [2], none⟩), (9, ⟨[], [], [2, 3, 4, 5], [2], some N⟩), (10, ⟨[], [], [2, 4, 5, 25], [2], none⟩), (11, ⟨[], [], [2, 4, 5], [2], some N⟩)], kdL [], [], [], (GL N)⟩
def spec_DyadicOf_g1 (N : Nat) (v4 : Int) (v5 : Int) : Option (((Bool × ((List Int) × Unit)) × (Int × Unit))) :=
  (spec_WholeOf N v5).bind fun v6 => (some ((v6.1, v6.2.1, ()), (IntKind.i64.wrap (v4 - 1075)), ()))
def spec_DyadicOf_j1 (N : Nat) (v4 : Int) (v5 : Int) : Option (((Bool × ((List Int) × Unit)) × (Int × Unit))) :=
  gate N (spec_DyadicOf_g1 N v4 v5)
def spec_DyadicOf_g0 (N : Nat) (v2 : Int) (c1 : Int → Int → Option (((Bool × ((List Int) × Unit)) × (Int × Unit)))) (v3 : Int) (v4 : Int) : Option (((Bool × ((List Int) × Unit)) × (Int × Unit))) :=
  (bif ((Int.fdiv v2 (2 ^ (min (63 : Int).toNat (IntKind.bits .u64)))) == 1) then (c1 v4 (IntKind.i64.wrap (0 - v3))) else (c1 v4 v3))
def spec_DyadicOf_j0 (N : Nat) (v2 : Int) (v3 : Int) (v4 : Int) : Option (((Bool × ((List Int) × Unit)) × (Int × Unit))) :=
  gate N (spec_DyadicOf_g0 N v2 (spec_DyadicOf_j1 N) v3 v4)
def spec_DyadicOf_g (N : Nat) (v1 : Nat) (c0 : Int → Int → Int → Option (((Bool × ((List Int) × Unit)) × (Int × Unit)))) : Option (((Bool × ((List Int) × Unit)) × (Int × Unit))) :=
  ((math_Float64bits N v1).bind fun v2 => (bif ((IntKind.i64.wrap (bits .and .u64 (Int.fdiv v2 (2 ^ (min (52 : Int).toNat (IntKind.bits .u64)))) 2047)) == 2047) then (some ((false, ([] : List Int), ()), 0, ())) else (bif ((IntKind.i64.wrap (bits .and .u64 (Int.fdiv v2 (2 ^ (min (52 : Int).toNat (IntKind.bits .u64)))) 2047)) == 0) then (c0 v2 (IntKind.i64.wrap (bits .and .u64 v2 4503599627370495)) 1) else (c0 v2 (IntKind.i64.wrap ((IntKind.i64.wrap (bits .and .u64 v2 4503599627370495)) + 4503599627370496)) (IntKind.i64.wrap (bits .and .u64 (Int.fdiv v2 (2 ^ (min (52 : Int).toNat (IntKind.bits .u64)))) 2047))))))
def spec_DyadicOf (N : Nat) (v1 : Nat) : Option (((Bool × ((List Int) × Unit)) × (Int × Unit))) :=
  spec_DyadicOf_g N v1 (spec_DyadicOf_j0 N)
set_option maxRecDepth 100000
noncomputable def spec_DyadicOf_e1 (N : Nat) (v4 : Int) (v5 : Int) : Option (HR [(.pair (.pair .bool (.pair (.list (.int .u32)) .unit)) (.pair (.int .i64) .unit))]) :=
  gate N (evC (spec_DyadicOf_E N) (codeAt (bodyOf Tryd.f29) [1, 1, 1, 1, 1]) ⟨[(2, .ref 2 0), (4, .pv (.int .i64) v5), (5, .pv (.int .i64) v4)], [(2, .box [.pv .bool false, .nils, .pv (.int .i64) 0])], []⟩ (kEnd (spec_DyadicOf_E N) [] Tryd.f29.results.toList [(.pair (.pair .bool (.pair (.list (.int .u32)) .unit)) (.pair (.int .i64) .unit))]))
noncomputable def spec_DyadicOf_e0 (N : Nat) (v2 : Int) (v3 : Int) (v4 : Int) : Option (HR [(.pair (.pair .bool (.pair (.list (.int .u32)) .unit)) (.pair (.int .i64) .unit))]) :=
  gate N (evC (spec_DyadicOf_E N) (codeAt (bodyOf Tryd.f29) [1, 1, 1, 1]) ⟨[(2, .ref 2 0), (3, .pv (.int .u64) v2), (4, .pv (.int .i64) v3), (5, .pv (.int .i64) v4)], [(2, .box [.pv .bool false, .nils, .pv (.int .i64) 0])], []⟩ (kEnd (spec_DyadicOf_E N) [] Tryd.f29.results.toList [(.pair (.pair .bool (.pair (.list (.int .u32)) .unit)) (.pair (.int .i64) .unit))]))
theorem spec_DyadicOf_t1 (N : Nat) (v4 : Int) (v5 : Int) : spec_DyadicOf_e1 N v4 v5 = spec_DyadicOf_j1 N v4 v5 := by
  exact (congrArg (gate N) (show evC (spec_DyadicOf_E N) (codeAt (bodyOf Tryd.f29) [1, 1, 1, 1, 1]) ⟨[(2, .ref 2 0), (4, .pv (.int .i64) v5), (5, .pv (.int .i64) v4)], [(2, .box [.pv .bool false, .nils, .pv (.int .i64) 0])], []⟩ (kEnd (spec_DyadicOf_E N) [] Tryd.f29.results.toList [(.pair (.pair .bool (.pair (.list (.int .u32)) .unit)) (.pair (.int .i64) .unit))]) = spec_DyadicOf_g1 N v4 v5 from by kernel_rfl)).trans (by rfl)
theorem spec_DyadicOf_t0 (N : Nat) (v2 : Int) (v3 : Int) (v4 : Int) : spec_DyadicOf_e0 N v2 v3 v4 = spec_DyadicOf_j0 N v2 v3 v4 := by
  have h1 : (spec_DyadicOf_e1 N) = (spec_DyadicOf_j1 N) := by funext v4 v5; exact spec_DyadicOf_t1 N v4 v5
  exact (congrArg (gate N) (show evC (spec_DyadicOf_E N) (codeAt (bodyOf Tryd.f29) [1, 1, 1, 1]) ⟨[(2, .ref 2 0), (3, .pv (.int .u64) v2), (4, .pv (.int .i64) v3), (5, .pv (.int .i64) v4)], [(2, .box [.pv .bool false, .nils, .pv (.int .i64) 0])], []⟩ (kEnd (spec_DyadicOf_E N) [] Tryd.f29.results.toList [(.pair (.pair .bool (.pair (.list (.int .u32)) .unit)) (.pair (.int .i64) .unit))]) = spec_DyadicOf_g0 N v2 (spec_DyadicOf_e1 N) v3 v4 from by kernel_rfl)).trans (by rw [h1]; rfl)
theorem spec_DyadicOf_t (N : Nat) (v1 : Nat) : evF (spec_DyadicOf_E N) [] Tryd.f29 [.k .float] [(.pair (.pair .bool (.pair (.list (.int .u32)) .unit)) (.pair (.int .i64) .unit))] (v1, ()) = spec_DyadicOf N v1 := by
  have h0 : (spec_DyadicOf_e0 N) = (spec_DyadicOf_j0 N) := by funext v2 v3 v4; exact spec_DyadicOf_t0 N v2 v3 v4
  exact (show evF (spec_DyadicOf_E N) [] Tryd.f29 [.k .float] [(.pair (.pair .bool (.pair (.list (.int .u32)) .unit)) (.pair (.int .i64) .unit))] (v1, ()) = spec_DyadicOf_g N v1 (spec_DyadicOf_e0 N) from by kernel_rfl).trans (by rw [h0]; rfl)
noncomputable def spec_DyadicOf_con (N : Nat) : Con := ⟨29, [.k .float], [(.pair (.pair .bool (.pair (.list (.int .u32)) .unit)) (.pair (.int .i64) .unit))], fun x => spec_DyadicOf N x.1⟩
theorem spec_DyadicOf_s (N : Nat) : (spec_DyadicOf_con N).Sound Tryd.prog (GL N) :=
  Con.sound_of (c := spec_DyadicOf_con N) (E := (spec_DyadicOf_E N)) (idle := []) Tryd.func29 (by kernel_rfl) (by kernel_rfl) ⟨(allCons (math_Float64bits_s N) (allCons (spec_WholeOf_s N) allNil)), allNil, rfl⟩ allNil (fun x y h => (spec_DyadicOf_t N x.1).trans h)
/-- pub-orthodrome/spec.PointOf -/
noncomputable def spec_PointOf_E (N : Nat) : Env := ⟨Tryd.prog, N, [spec_DyadicOf_con N], [(0, ⟨[], [], [0, 1], [], none⟩), (1, ⟨[], [], [0, 1, 4], [4], none⟩)], kdL [], [], [], (GL N)⟩
def spec_PointOf_g (N : Nat) (v1 : Nat) (v2 : Nat) : Option ((((Bool × ((List Int) × Unit)) × (Int × Unit)) × (((Bool × ((List Int) × Unit)) × (Int × Unit)) × Unit))) :=
  ((spec_DyadicOf N v1).bind fun v3 => (spec_DyadicOf N v2).bind fun v4 => (some (((v3.1.1, v3.1.2.1, ()), v3.2.1, ()), ((v4.1.1, v4.1.2.1, ()), v4.2.1, ()), ())))
def spec_PointOf (N : Nat) (v1 : Nat) (v2 : Nat) : Option ((((Bool × ((List Int) × Unit)) × (Int × Unit)) × (((Bool × ((List Int) × Unit)) × (Int × Unit)) × Unit))) :=
  spec_PointOf_g N v1 v2
set_option maxRecDepth 100000
theorem spec_PointOf_t (N : Nat) (v1 : Nat) (v2 : Nat) : evF (spec_PointOf_E N) [] Tryd.f18 [.k .float, .k .float] [(.pair (.pair (.pair .bool (.pair (.list (.int .u32)) .unit)) (.pair (.int .i64) .unit)) (.pair (.pair (.pair .bool (.pair (.list (.int .u32)) .unit)) (.pair (.int .i64) .unit)) .unit))] (v1, v2, ()) = spec_PointOf N v1 v2 := by
  exact (show evF (spec_PointOf_E N) [] Tryd.f18 [.k .float, .k .float] [(.pair (.pair (.pair .bool (.pair (.list (.int .u32)) .unit)) (.pair (.int .i64) .unit)) (.pair (.pair (.pair .bool (.pair (.list (.int .u32)) .unit)) (.pair (.int .i64) .unit)) .unit))] (v1, v2, ()) = spec_PointOf_g N v1 v2 from by kernel_rfl).trans (by rfl)
noncomputable def spec_PointOf_con (N : Nat) : Con := ⟨18, [.k .float, .k .float], [(.pair (.pair (.pair .bool (.pair (.list (.int .u32)) .unit)) (.pair (.int .i64) .unit)) (.pair (.pair (.pair .bool (.pair (.list (.int .u32)) .unit)) (.pair (.int .i64) .unit)) .unit))], fun x => spec_PointOf N x.1 x.2.1⟩
theorem spec_PointOf_s (N : Nat) : (spec_PointOf_con N).Sound Tryd.prog (GL N) :=
  Con.sound_of (c := spec_PointOf_con N) (E := (spec_PointOf_E N)) (idle := []) Tryd.func18 (by kernel_rfl) (by kernel_rfl) ⟨(allCons (spec_DyadicOf_s N) allNil), allNil, rfl⟩ allNil (fun x y h => (spec_PointOf_t N x.1 x.2.1).trans h)
/-- pub-orthodrome/laws.exactly -/
noncomputable def laws_exactly_E (N : Nat) : Env := ⟨Tryd.prog, N, [spec_PointOf_con N], [(0, ⟨[], [], [0], [], none⟩), (1, ⟨[], [], [1, 2], [1, 2], none⟩)], kdL [], [], [], (GL N)⟩
def laws_exactly_g (N : Nat) (v1 : (Nat × (Nat × Unit))) : Option ((((Bool × ((List Int) × Unit)) × (Int × Unit)) × (((Bool × ((List Int) × Unit)) × (Int × Unit)) × Unit))) :=
  ((spec_PointOf N v1.1 v1.2.1).bind fun v2 => (some (((v2.1.1.1, v2.1.1.2.1, ()), v2.1.2.1, ()), ((v2.2.1.1.1, v2.2.1.1.2.1, ()), v2.2.1.2.1, ()), ())))
def laws_exactly (N : Nat) (v1 : (Nat × (Nat × Unit))) : Option ((((Bool × ((List Int) × Unit)) × (Int × Unit)) × (((Bool × ((List Int) × Unit)) × (Int × Unit)) × Unit))) :=
  laws_exactly_g N v1
set_option maxRecDepth 100000
theorem laws_exactly_t (N : Nat) (v1 : (Nat × (Nat × Unit))) : evF (laws_exactly_E N) [] Tryd.f8 [.k (.pair .float (.pair .float .unit))] [(.pair (.pair (.pair .bool (.pair (.list (.int .u32)) .unit)) (.pair (.int .i64) .unit)) (.pair (.pair (.pair .bool (.pair (.list (.int .u32)) .unit)) (.pair (.int .i64) .unit)) .unit))] (v1, ()) = laws_exactly N v1 := by
  exact (show evF (laws_exactly_E N) [] Tryd.f8 [.k (.pair .float (.pair .float .unit))] [(.pair (.pair (.pair .bool (.pair (.list (.int .u32)) .unit)) (.pair (.int .i64) .unit)) (.pair (.pair (.pair .bool (.pair (.list (.int .u32)) .unit)) (.pair (.int .i64) .unit)) .unit))] (v1, ()) = laws_exactly_g N v1 from by kernel_rfl).trans (by rfl)
noncomputable def laws_exactly_con (N : Nat) : Con := ⟨8, [.k (.pair .float (.pair .float .unit))], [(.pair (.pair (.pair .bool (.pair (.list (.int .u32)) .unit)) (.pair (.int .i64) .unit)) (.pair (.pair (.pair .bool (.pair (.list (.int .u32)) .unit)) (.pair (.int .i64) .unit)) .unit))], fun x => laws_exactly N x.1⟩
theorem laws_exactly_s (N : Nat) : (laws_exactly_con N).Sound Tryd.prog (GL N) :=
  Con.sound_of (c := laws_exactly_con N) (E := (laws_exactly_E N)) (idle := []) Tryd.func8 (by kernel_rfl) (by kernel_rfl) ⟨(allCons (spec_PointOf_s N) allNil), allNil, rfl⟩ allNil (fun x y h => (laws_exactly_t N x.1).trans h)
/-- (pub-orthodrome/spec.Whole).Minus -/
noncomputable def spec_Whole_Minus_E (N : Nat) : Env := ⟨Tryd.prog, N, [], [(0, ⟨[], [], [0], [], none⟩), (1, ⟨[], [], [1, 2], [1, 2], none⟩)], kdL [], [], [], (GL N)⟩
def spec_Whole_Minus_g (N : Nat) (v1 : (Bool × ((List Int) × Unit))) : Option ((Bool × ((List Int) × Unit))) :=
  (bif (!v1.1) then (some ((decide (((v1.2.1.length : Int) : Int) > 0)), v1.2.1, ())) else (some (false, v1.2.1, ())))
def spec_Whole_Minus (N : Nat) (v1 : (Bool × ((List Int) × Unit))) : Option ((Bool × ((List Int) × Unit))) :=
  spec_Whole_Minus_g N v1
set_option maxRecDepth 100000
theorem spec_Whole_Minus_t (N : Nat) (v1 : (Bool × ((List Int) × Unit))) : evF (spec_Whole_Minus_E N) [] Tryd.f47 [.k (.pair .bool (.pair (.list (.int .u32)) .unit))] [(.pair .bool (.pair (.list (.int .u32)) .unit))] (v1, ()) = spec_Whole_Minus N v1 := by
  exact (show evF (spec_Whole_Minus_E N) [] Tryd.f47 [.k (.pair .bool (.pair (.list (.int .u32)) .unit))] [(.pair .bool (.pair (.list (.int .u32)) .unit))] (v1, ()) = spec_Whole_Minus_g N v1 from by kernel_rfl).trans (by rfl)
noncomputable def spec_Whole_Minus_con (N : Nat) : Con := ⟨47, [.k (.pair .bool (.pair (.list (.int .u32)) .unit))], [(.pair .bool (.pair (.list (.int .u32)) .unit))], fun x => spec_Whole_Minus N x.1⟩
theorem spec_Whole_Minus_s (N : Nat) : (spec_Whole_Minus_con N).Sound Tryd.prog (GL N) :=
  Con.sound_of (c := spec_Whole_Minus_con N) (E := (spec_Whole_Minus_E N)) (idle := []) Tryd.func47 (by kernel_rfl) (by kernel_rfl) ⟨allNil, allNil, rfl⟩ allNil (fun x y h => (spec_Whole_Minus_t N x.1).trans h)
/-- (pub-orthodrome/spec.Dyadic).Minus -/
noncomputable def spec_Dyadic_Minus_E (N : Nat) : Env := ⟨Tryd.prog, N, [spec_Whole_Minus_con N], [(0, ⟨[], [], [0], [], none⟩), (1, ⟨[], [], [1, 2], [1, 2], none⟩)], kdL [], [], [], (GL N)⟩
def spec_Dyadic_Minus_g (N : Nat) (v1 : ((Bool × ((List Int) × Unit)) × (Int × Unit))) : Option (((Bool × ((List Int) × Unit)) × (Int × Unit))) :=
  ((spec_Whole_Minus N (v1.1.1, v1.1.2.1, ())).bind fun v2 => (some ((v2.1, v2.2.1, ()), v1.2.1, ())))
def spec_Dyadic_Minus (N : Nat) (v1 : ((Bool × ((List Int) × Unit)) × (Int × Unit))) : Option (((Bool × ((List Int) × Unit)) × (Int × Unit))) :=
  spec_Dyadic_Minus_g N v1
set_option maxRecDepth 100000
theorem spec_Dyadic_Minus_t (N : Nat) (v1 : ((Bool × ((List Int) × Unit)) × (Int × Unit))) : evF (spec_Dyadic_Minus_E N) [] Tryd.f37 [.k (.pair (.pair .bool (.pair (.list (.int .u32)) .unit)) (.pair (.int .i64) .unit))] [(.pair (.pair .bool (.pair (.list (.int .u32)) .unit)) (.pair (.int .i64) .unit))] (v1, ()) = spec_Dyadic_Minus N v1 := by
  exact (show evF (spec_Dyadic_Minus_E N) [] Tryd.f37 [.k (.pair (.pair .bool (.pair (.list (.int .u32)) .unit)) (.pair (.int .i64) .unit))] [(.pair (.pair .bool (.pair (.list (.int .u32)) .unit)) (.pair (.int .i64) .unit))] (v1, ()) = spec_Dyadic_Minus_g N v1 from by kernel_rfl).trans (by rfl)
noncomputable def spec_Dyadic_Minus_con (N : Nat) : Con := ⟨37, [.k (.pair (.pair .bool (.pair (.list (.int .u32)) .unit)) (.pair (.int .i64) .unit))], [(.pair (.pair .bool (.pair (.list (.int .u32)) .unit)) (.pair (.int .i64) .unit))], fun x => spec_Dyadic_Minus N x.1⟩
theorem spec_Dyadic_Minus_s (N : Nat) : (spec_Dyadic_Minus_con N).Sound Tryd.prog (GL N) :=
  Con.sound_of (c := spec_Dyadic_Minus_con N) (E := (spec_Dyadic_Minus_E N)) (idle := []) Tryd.func37 (by kernel_rfl) (by kernel_rfl) ⟨(allCons (spec_Whole_Minus_s N) allNil), allNil, rfl⟩ allNil (fun x y h => (spec_Dyadic_Minus_t N x.1).trans h)
/-- (pub-orthodrome/spec.Whole).Sign -/
noncomputable def spec_Whole_Sign_E (N : Nat) : Env := ⟨Tryd.prog, N, [], [(0, ⟨[], [], [0], [], none⟩), (1, ⟨[], [], [1], [1], none⟩), (2, ⟨[], [], [1, 3], [1], none⟩), (4, ⟨[], [], [8], [], none⟩), (5, ⟨[], [], [], [], none⟩)], kdL [], [], [], (GL N)⟩
def spec_Whole_Sign_g (N : Nat) (v1 : (Bool × ((List Int) × Unit))) : Option (Int) :=
  (bif ((v1.2.1.length : Int) == 0) then (some 0) else (bif v1.1 then (some (-1)) else (some 1)))
def spec_Whole_Sign (N : Nat) (v1 : (Bool × ((List Int) × Unit))) : Option (Int) :=
  spec_Whole_Sign_g N v1
set_option maxRecDepth 100000
theorem spec_Whole_Sign_t (N : Nat) (v1 : (Bool × ((List Int) × Unit))) : evF (spec_Whole_Sign_E N) [] Tryd.f28 [.k (.pair .bool (.pair (.list (.int .u32)) .unit))] [(.int .i64)] (v1, ()) = spec_Whole_Sign N v1 := by
  exact (show evF (spec_Whole_Sign_E N) [] Tryd.f28 [.k (.pair .bool (.pair (.list (.int .u32)) .unit))] [(.int .i64)] (v1, ()) = spec_Whole_Sign_g N v1 from by kernel_rfl).trans (by rfl)
noncomputable def spec_Whole_Sign_con (N : Nat) : Con := ⟨28, [.k (.pair .bool (.pair (.list (.int .u32)) .unit))], [(.int .i64)], fun x => spec_Whole_Sign N x.1⟩
theorem spec_Whole_Sign_s (N : Nat) : (spec_Whole_Sign_con N).Sound Tryd.prog (GL N) :=
  Con.sound_of (c := spec_Whole_Sign_con N) (E := (spec_Whole_Sign_E N)) (idle := []) Tryd.func28 (by kernel_rfl) (by kernel_rfl) ⟨allNil, allNil, rfl⟩ allNil (fun x y h => (spec_Whole_Sign_t N x.1).trans h)
/-- (pub-orthodrome/spec.Dyadic).Sign -/
noncomputable def spec_Dyadic_Sign_E (N : Nat) : Env := ⟨Tryd.prog, N, [spec_Whole_Sign_con N], [(0, ⟨[], [], [0], [], none⟩), (1, ⟨[], [], [1], [1], none⟩)], kdL [], [], [], (GL N)⟩
def spec_Dyadic_Sign_g (N : Nat) (v1 : ((Bool × ((List Int) × Unit)) × (Int × Unit))) : Option (Int) :=
  ((spec_Whole_Sign N (v1.1.1, v1.1.2.1, ())).bind fun v2 => (some v2))
def spec_Dyadic_Sign (N : Nat) (v1 : ((Bool × ((List Int) × Unit)) × (Int × Unit))) : Option (Int) :=
  spec_Dyadic_Sign_g N v1
set_option maxRecDepth 100000
theorem spec_Dyadic_Sign_t (N : Nat) (v1 : ((Bool × ((List Int) × Unit)) × (Int × Unit))) : evF (spec_Dyadic_Sign_E N) [] Tryd.f17 [.k (.pair (.pair .bool (.pair (.list (.int .u32)) .unit)) (.pair (.int .i64) .unit))] [(.int .i64)] (v1, ()) = spec_Dyadic_Sign N v1 := by
  exact (show evF (spec_Dyadic_Sign_E N) [] Tryd.f17 [.k (.pair (.pair .bool (.pair (.list (.int .u32)) .unit)) (.pair (.int .i64) .unit))] [(.int .i64)] (v1, ()) = spec_Dyadic_Sign_g N v1 from by kernel_rfl).trans (by rfl)
noncomputable def spec_Dyadic_Sign_con (N : Nat) : Con := ⟨17, [.k (.pair (.pair .bool (.pair (.list (.int .u32)) .unit)) (.pair (.int .i64) .unit))], [(.int .i64)], fun x => spec_Dyadic_Sign N x.1⟩
theorem spec_Dyadic_Sign_s (N : Nat) : (spec_Dyadic_Sign_con N).Sound Tryd.prog (GL N) :=
  Con.sound_of (c := spec_Dyadic_Sign_con N) (E := (spec_Dyadic_Sign_E N)) (idle := []) Tryd.func17 (by kernel_rfl) (by kernel_rfl) ⟨(allCons (spec_Whole_Sign_s N) allNil), allNil, rfl⟩ allNil (fun x y h => (spec_Dyadic_Sign_t N x.1).trans h)
/-- pub-orthodrome/spec.trim -/
noncomputable def spec_trim_b_E (N : Nat) : Env := ⟨Tryd.prog, N, [], [(0, ⟨[], [], [0], [], none⟩), (1, ⟨[], [], [0], [], none⟩), (2, ⟨[], [], [0], [], none⟩), (3, ⟨[], [], [0], [], some N⟩)], kdL [], [], [], (GL N)⟩
def spec_trim_b_g1 (N : Nat) (v4 : (List Int)) : Option (((List Int) × Unit)) :=
  (some (v4, ()))
def spec_trim_b_j1 (N : Nat) (v4 : (List Int)) : Option (((List Int) × Unit)) :=
  gate N (spec_trim_b_g1 N v4)
def spec_trim_b_g0 (N : Nat) (c1 : (List Int) → Option (((List Int) × Unit))) (r0 : (List Int) → Option (((List Int) × Unit))) (v4 : (List Int)) : Option (((List Int) × Unit)) :=
  bif (decide (((v4.length : Int) : Int) > 0)) then ((nth v4 (IntKind.i64.wrap ((v4.length : Int) - 1))).bind fun v5 => (bif (v5 == 0) then ((chk2 0 (IntKind.i64.wrap ((v4.length : Int) - 1)) v4.length).bind fun v6 => (r0 ((v4.drop v6.1).take (v6.2 - v6.1)))) else (c1 v4))) else (c1 v4)
def spec_trim_b_l0 (N : Nat) : Nat → (List Int) → Option (((List Int) × Unit))
  | 0, _ => none
  | n + 1, v4 => spec_trim_b_g0 N (spec_trim_b_j1 N) (spec_trim_b_l0 N n) v4
def spec_trim_b_g (N : Nat) (v1 : (List Int)) (c0 : (List Int) → Option (((List Int) × Unit))) : Option (((List Int) × Unit)) :=
  ((c0 v1))
def spec_trim_b (N : Nat) (v1 : (List Int)) : Option (((List Int) × Unit)) :=
  spec_trim_b_g N v1 (spec_trim_b_l0 N N)
set_option maxRecDepth 100000
noncomputable def spec_trim_b_e1 (N : Nat) (v4 : (List Int)) : Option (AltD [⟨[.k (.list (.int .u32))], [none]⟩]) :=
  gate N (evC (spec_trim_b_E N) (codeAt (bodyOf Tryd.f48) [1, 1]) ⟨[(0, .pv (.list (.int .u32)) v4)], [], []⟩ (kEnd2 (spec_trim_b_E N) [] Tryd.f48.results.toList [⟨[.k (.list (.int .u32))], [none]⟩] [.dead]))
noncomputable def spec_trim_b_e0 (N : Nat) (n : Nat) (v4 : (List Int)) : Option (AltD [⟨[.k (.list (.int .u32))], [none]⟩]) :=
  loopN (advOf (spec_trim_b_E N) (codeAt (bodyOf Tryd.f48) [1, 0, 0, 0])) (evC (spec_trim_b_E N) (codeAt (bodyOf Tryd.f48) [1, 0, 0, 0])) n ⟨[(0, .pv (.list (.int .u32)) v4)], [], []⟩ (kBlock 0 (kSeq (advOf (spec_trim_b_E N) (codeAt (bodyOf Tryd.f48) [1, 1])) (evC (spec_trim_b_E N) (codeAt (bodyOf Tryd.f48) [1, 1])) (kEnd2 (spec_trim_b_E N) [] Tryd.f48.results.toList [⟨[.k (.list (.int .u32))], [none]⟩] [.dead])))
theorem spec_trim_b_t1 (N : Nat) (v4 : (List Int)) : spec_trim_b_e1 N v4 = spec_trim_b_j1 N v4 := by
  exact (congrArg (gate N) (show evC (spec_trim_b_E N) (codeAt (bodyOf Tryd.f48) [1, 1]) ⟨[(0, .pv (.list (.int .u32)) v4)], [], []⟩ (kEnd2 (spec_trim_b_E N) [] Tryd.f48.results.toList [⟨[.k (.list (.int .u32))], [none]⟩] [.dead]) = spec_trim_b_g1 N v4 from by kernel_rfl)).trans (by rfl)
theorem spec_trim_b_t0 (N : Nat) : ∀ (n : Nat) (v4 : (List Int)), spec_trim_b_e0 N n v4 = spec_trim_b_l0 N n v4
  | 0, _ => rfl
  | n + 1, v4 => by
    have h1 : (spec_trim_b_e1 N) = (spec_trim_b_j1 N) := by funext v4; exact spec_trim_b_t1 N v4
    have h : spec_trim_b_e0 N n = spec_trim_b_l0 N n := by funext v4; exact spec_trim_b_t0 N n v4
    exact (show spec_trim_b_e0 N (n + 1) v4 = spec_trim_b_g0 N (spec_trim_b_e1 N) (spec_trim_b_e0 N n) v4 from by kernel_rfl).trans (by rw [h1, h]; rfl)
theorem spec_trim_b_t (N : Nat) (v1 : (List Int)) : evF2 (spec_trim_b_E N) [] Tryd.f48 [.k (.list (.int .u32))] [⟨[.k (.list (.int .u32))], [none]⟩] (v1, ()) = spec_trim_b N v1 := by
  have h0 : (spec_trim_b_e0 N N) = (spec_trim_b_l0 N N) := by funext v4; exact spec_trim_b_t0 N N v4
  exact (show evF2 (spec_trim_b_E N) [] Tryd.f48 [.k (.list (.int .u32))] [⟨[.k (.list (.int .u32))], [none]⟩] (v1, ()) = spec_trim_b_g N v1 (spec_trim_b_e0 N N) from by kernel_rfl).trans (by rw [h0]; rfl)
noncomputable def spec_trim_b_con (N : Nat) : Con2 := ⟨48, [.k (.list (.int .u32))], [⟨[.k (.list (.int .u32))], [none]⟩], fun x => spec_trim_b N x.1⟩
theorem spec_trim_b_s (N : Nat) : (spec_trim_b_con N).Sound Tryd.prog (GL N) :=
  Con2.sound_of (c := spec_trim_b_con N) (E := (spec_trim_b_E N)) (idle := []) Tryd.func48 (by kernel_rfl) (by kernel_rfl) ⟨allNil, allNil, rfl⟩ allNil (fun x y h => (spec_trim_b_t N x.1).trans h)
/-- (pub-orthodrome/spec.Whole).Up -/
noncomputable def spec_Whole_Up_E (N : Nat) : Env := ⟨Tryd.prog, N, [], [(0, ⟨[], [], [0, 1], [], none⟩), (1, ⟨[], [], [1, 2, 4], [2, 4], none⟩), (2, ⟨[], [], [1, 2, 4, 13], [2, 4], none⟩), (3, ⟨[], [], [1, 2, 4], [2, 4], none⟩), (4, ⟨[], [], [1, 2, 4, 5], [2, 4, 24], none⟩), (5, ⟨[], [], [1, 2, 4, 5, 6], [2, 4, 24], none⟩), (6, ⟨[(5, 78, (.int .u32), 90600)], [], [1, 2, 4, 5, 6, 26, 27, 28], [2, 4, 90600], none⟩), (7, ⟨[], [], [1, 2, 4, 5, 6, 26, 27, 28], [2, 4, 90600], none⟩), (8, ⟨[], [], [1, 2, 4, 5, 6, 8, 26, 27, 28], [2, 4, 90600], none⟩), (9, ⟨[], [], [1, 2, 4, 5, 6, 9, 26, 27, 28], [2, 4, 90600], none⟩), (10, ⟨[], [], [1, 2, 4, 5, 9, 26, 27, 28], [2, 4, 43], none⟩), (11, ⟨[], [], [1, 2, 4, 5, 6, 26, 27, 28], [2, 4, 43], none⟩), (12, ⟨[], [], [2, 4, 5, 6], [2, 4, 90600], none⟩)], kdL [(78, (.int .u32))], [spec_trim_b_con N], [], (GL N)⟩
def spec_Whole_Up_g0 (N : Nat) (v2 : Int) (v1 : (Bool × ((List Int) × Unit))) (r0 : Int → Int → (List Int) → Option ((Bool × ((List Int) × Unit)))) (v5 : Int) (v6 : Int) (v7 : (List Int)) : Option ((Bool × ((List Int) × Unit))) :=
  (bif (decide ((v6 : Int) < (v1.2.1.length : Int))) then ((nth v1.2.1 v6).bind fun v8 => (if ((Int.tmod v2 32) : Int) < 0 then none else ((lim ((v7.length + ([(bits .or .u32 (IntKind.u32.wrap (IntKind.u64.wrap ((IntKind.u64.wrap v8) * 2 ^ (min ((Int.tmod v2 32) : Int).toNat (IntKind.bits .u64))))) v5)] : List Int).length) * 4)).bind fun _ => ((r0 (IntKind.u32.wrap (Int.fdiv (IntKind.u64.wrap ((IntKind.u64.wrap v8) * 2 ^ (min ((Int.tmod v2 32) : Int).toNat (IntKind.bits .u64)))) (2 ^ (min (32 : Int).toNat (IntKind.bits .u64))))) (IntKind.i64.wrap (v6 + 1)) (v7 ++ ([(bits .or .u32 (IntKind.u32.wrap (IntKind.u64.wrap ((IntKind.u64.wrap v8) * 2 ^ (min ((Int.tmod v2 32) : Int).toNat (IntKind.bits .u64))))) v5)] : List Int))))))) else ((lim ((v7.length + ([v5] : List Int).length) * 4)).bind fun _ => (spec_trim_b N (v7 ++ ([v5] : List Int))).bind fun v9 => (some (v1.1, v9.1, ()))))
def spec_Whole_Up_l0 (N : Nat) : Nat → Int → (Bool × ((List Int) × Unit)) → Int → Int → (List Int) → Option ((Bool × ((List Int) × Unit)))
  | 0, _, _, _, _, _ => none
  | n + 1, v2, v1, v5, v6, v7 => spec_Whole_Up_g0 N v2 v1 (spec_Whole_Up_l0 N n v2 v1) v5 v6 v7
def spec_Whole_Up_g (N : Nat) (v1 : (Bool × ((List Int) × Unit))) (v2 : Int) (c0 : Int → (Bool × ((List Int) × Unit)) → Int → Int → (List Int) → Option ((Bool × ((List Int) × Unit)))) : Option ((Bool × ((List Int) × Unit))) :=
  (bif ((v1.2.1.length : Int) == 0) then (some (v1.1, v1.2.1, ())) else ((mkn (IntKind.i64.wrap (Int.tdiv v2 32)) (IntKind.i64.wrap ((IntKind.i64.wrap ((IntKind.i64.wrap (Int.tdiv v2 32)) + (v1.2.1.length : Int))) + 1)) 4).bind fun v3 => ((c0 v2 v1 0 0 (List.replicate v3 (0 : Int))))))
def spec_Whole_Up (N : Nat) (v1 : (Bool × ((List Int) × Unit))) (v2 : Int) : Option ((Bool × ((List Int) × Unit))) :=
  spec_Whole_Up_g N v1 v2 (spec_Whole_Up_l0 N N)
set_option maxRecDepth 100000
noncomputable def spec_Whole_Up_e0 (N : Nat) (n : Nat) (v2 : Int) (v1 : (Bool × ((List Int) × Unit))) (v5 : Int) (v6 : Int) (v7 : (List Int)) : Option (HR [(.pair .bool (.pair (.list (.int .u32)) .unit))]) :=
  loopN (advOf (spec_Whole_Up_E N) (codeAt (bodyOf Tryd.f45) [1, 1, 1, 1, 0, 1, 0, 0])) (evC (spec_Whole_Up_E N) (codeAt (bodyOf Tryd.f45) [1, 1, 1, 1, 0, 1, 0, 0])) n ⟨[(1, .pv (.int .i64) v2), (2, .ref 2 0), (4, .ref 4 0), (5, .own (.int .u32) 90600), (6, .pv (.int .u32) v5), (26, .pv (.list (.int .u32)) v1.2.1), (27, .pv (.int .i64) (v1.2.1.length : Int)), (28, .pv (.int .i64) v6)], [(2, .box [.pv .bool v1.1, .pv (.list (.int .u32)) v1.2.1]), (4, .box [.pv .bool false, .nils]), (90600, .arr 78 (.int .u32) v7)], []⟩ (kBlock 0 (kSeq (advOf (spec_Whole_Up_E N) (codeAt (bodyOf Tryd.f45) [1, 1, 1, 1, 1])) (evC (spec_Whole_Up_E N) (codeAt (bodyOf Tryd.f45) [1, 1, 1, 1, 1])) (kEnd (spec_Whole_Up_E N) [] Tryd.f45.results.toList [(.pair .bool (.pair (.list (.int .u32)) .unit))])))
theorem spec_Whole_Up_t0 (N : Nat) : ∀ (n : Nat) (v2 : Int) (v1 : (Bool × ((List Int) × Unit))) (v5 : Int) (v6 : Int) (v7 : (List Int)), spec_Whole_Up_e0 N n v2 v1 v5 v6 v7 = spec_Whole_Up_l0 N n v2 v1 v5 v6 v7
  | 0, _, _, _, _, _ => rfl
  | n + 1, v2, v1, v5, v6, v7 => by
    have h : spec_Whole_Up_e0 N n v2 v1 = spec_Whole_Up_l0 N n v2 v1 := by funext v5 v6 v7; exact spec_Whole_Up_t0 N n v2 v1 v5 v6 v7
    exact (show spec_Whole_Up_e0 N (n + 1) v2 v1 v5 v6 v7 = spec_Whole_Up_g0 N v2 v1 (spec_Whole_Up_e0 N n v2 v1) v5 v6 v7 from by kernel_rfl).trans (by rw [h]; rfl)
theorem spec_Whole_Up_t (N : Nat) (v1 : (Bool × ((List Int) × Unit))) (v2 : Int) : evF (spec_Whole_Up_E N) [] Tryd.f45 [.k (.pair .bool (.pair (.list (.int .u32)) .unit)), .k (.int .i64)] [(.pair .bool (.pair (.list (.int .u32)) .unit))] (v1, v2, ()) = spec_Whole_Up N v1 v2 := by
  have h0 : (spec_Whole_Up_e0 N N) = (spec_Whole_Up_l0 N N) := by funext v2 v1 v5 v6 v7; exact spec_Whole_Up_t0 N N v2 v1 v5 v6 v7
  exact (show evF (spec_Whole_Up_E N) [] Tryd.f45 [.k (.pair .bool (.pair (.list (.int .u32)) .unit)), .k (.int .i64)] [(.pair .bool (.pair (.list (.int .u32)) .unit))] (v1, v2, ()) = spec_Whole_Up_g N v1 v2 (spec_Whole_Up_e0 N N) from by kernel_rfl).trans (by rw [h0]; rfl)
noncomputable def spec_Whole_Up_con (N : Nat) : Con := ⟨45, [.k (.pair .bool (.pair (.list (.int .u32)) .unit)), .k (.int .i64)], [(.pair .bool (.pair (.list (.int .u32)) .unit))], fun x => spec_Whole_Up N x.1 x.2.1⟩
theorem spec_Whole_Up_s (N : Nat) : (spec_Whole_Up_con N).Sound Tryd.prog (GL N) :=
  Con.sound_of (c := spec_Whole_Up_con N) (E := (spec_Whole_Up_E N)) (idle := []) Tryd.func45 (by kernel_rfl) (by kernel_rfl) ⟨allNil, (allCons (spec_trim_b_s N) allNil), rfl⟩ allNil (fun x y h => (spec_Whole_Up_t N x.1 x.2.1).trans h)
/-- pub-orthodrome/spec.addLimbs -/
noncomputable def spec_addLimbs_E (N : Nat) : Env := ⟨Tryd.prog, N, [spec_trim_con N], [(0, ⟨[], [], [0, 1], [], none⟩), (1, ⟨[], [], [0, 1], [], none⟩), (2, ⟨[], [], [0, 1, 14], [], none⟩), (3, ⟨[], [], [0, 1], [], some N⟩), (4, ⟨[], [], [0, 1, 5], [20], none⟩), (5, ⟨[], [], [0, 1, 5, 6], [20], none⟩), (6, ⟨[(5, 78, (.int .u32), 90600)], [], [1, 5, 6, 21, 22, 23], [90600], none⟩), (7, ⟨[], [], [1, 5, 6, 21, 22, 23], [90600], none⟩), (8, ⟨[], [], [1, 5, 6, 7, 8, 21, 22, 23], [90600], none⟩), (9, ⟨[], [], [1, 5, 7, 9, 21, 22, 23], [90600], none⟩), (10, ⟨[], [], [1, 5, 7, 9, 21, 22, 23, 35], [90600], none⟩), (11, ⟨[], [], [1, 5, 9, 21, 22, 23], [90600], some N⟩), (12, ⟨[], [], [1, 5, 9, 21, 22, 23], [47], none⟩), (13, ⟨[], [], [1, 5, 6, 21, 22, 23], [47], none⟩), (14, ⟨[], [], [5, 6], [90600], none⟩)], kdL [(78, (.int .u32))], [], [], (GL N)⟩
def spec_addLimbs_g2 (N : Nat) (v4 : (List Int)) (v3 : (List Int)) (v10 : Int) (v11 : (List Int)) (r1 : Int → Int → (List Int) → Option ((List Int))) (v14 : Int) : Option ((List Int)) :=
  (lim ((v11.length + ([(IntKind.u32.wrap v14)] : List Int).length) * 4)).bind fun _ => ((r1 (Int.fdiv v14 (2 ^ (min (32 : Int).toNat (IntKind.bits .u64)))) (IntKind.i64.wrap (v10 + 1)) (v11 ++ ([(IntKind.u32.wrap v14)] : List Int))))
def spec_addLimbs_j2 (N : Nat) (r1 : Int → Int → (List Int) → Option ((List Int))) (v4 : (List Int)) (v3 : (List Int)) (v10 : Int) (v11 : (List Int)) (v14 : Int) : Option ((List Int)) :=
  gate N (spec_addLimbs_g2 N v4 v3 v10 v11 r1 v14)
def spec_addLimbs_g1 (N : Nat) (v4 : (List Int)) (v3 : (List Int)) (c2 : Int → (List Int) → Int → Option ((List Int))) (r1 : Int → Int → (List Int) → Option ((List Int))) (v9 : Int) (v10 : Int) (v11 : (List Int)) : Option ((List Int)) :=
  (bif (decide ((v10 : Int) < (v3.length : Int))) then ((nth v3 v10).bind fun v12 => (bif (decide ((v10 : Int) < (v4.length : Int))) then ((nth v4 v10).bind fun v13 => (c2 v10 v11 (IntKind.u64.wrap ((IntKind.u64.wrap ((IntKind.u64.wrap v12) + v9)) + (IntKind.u64.wrap v13))))) else (c2 v10 v11 (IntKind.u64.wrap ((IntKind.u64.wrap v12) + v9))))) else ((lim ((v11.length + ([(IntKind.u32.wrap v9)] : List Int).length) * 4)).bind fun _ => (spec_trim N (v11 ++ ([(IntKind.u32.wrap v9)] : List Int))).bind fun v15 => (some v15)))
def spec_addLimbs_l1 (N : Nat) : Nat → (List Int) → (List Int) → Int → Int → (List Int) → Option ((List Int))
  | 0, _, _, _, _, _ => none
  | n + 1, v4, v3, v9, v10, v11 => spec_addLimbs_g1 N v4 v3 (spec_addLimbs_j2 N (spec_addLimbs_l1 N n v4 v3) v4 v3) (spec_addLimbs_l1 N n v4 v3) v9 v10 v11
def spec_addLimbs_g0 (N : Nat) (c1 : (List Int) → (List Int) → Int → Int → (List Int) → Option ((List Int))) (v3 : (List Int)) (v4 : (List Int)) : Option ((List Int)) :=
  (mkn 0 (IntKind.i64.wrap ((v3.length : Int) + 1)) 4).bind fun v5 => ((c1 v4 v3 0 0 (List.replicate v5 (0 : Int))))
def spec_addLimbs_j0 (N : Nat) (v3 : (List Int)) (v4 : (List Int)) : Option ((List Int)) :=
  gate N (spec_addLimbs_g0 N (spec_addLimbs_l1 N N) v3 v4)
def spec_addLimbs_g (N : Nat) (v1 : (List Int)) (v2 : (List Int)) (c0 : (List Int) → (List Int) → Option ((List Int))) : Option ((List Int)) :=
  (bif (decide (((v1.length : Int) : Int) < (v2.length : Int))) then (c0 v2 v1) else (c0 v1 v2))
def spec_addLimbs (N : Nat) (v1 : (List Int)) (v2 : (List Int)) : Option ((List Int)) :=
  spec_addLimbs_g N v1 v2 (spec_addLimbs_j0 N)
set_option maxRecDepth 100000
noncomputable def spec_addLimbs_e2 (N : Nat) (m1 : Nat) (v4 : (List Int)) (v3 : (List Int)) (v10 : Int) (v11 : (List Int)) (v14 : Int) : Option (HR [(.list (.int .u32))]) :=
  gate N (evC (spec_addLimbs_E N) (codeAt (bodyOf Tryd.f53) [1, 1, 1, 1, 0, 1, 0, 0, 1, 1, 0, 0, 1, 1, 1]) ⟨[(1, .pv (.list (.int .u32)) v4), (5, .own (.int .u32) 90600), (9, .pv (.int .u64) v14), (21, .pv (.list (.int .u32)) v3), (22, .pv (.int .i64) (v3.length : Int)), (23, .pv (.int .i64) v10)], [(90600, .arr 78 (.int .u32) v11)], []⟩ (kBlock 1 (kSeq (advOf (spec_addLimbs_E N) (codeAt (bodyOf Tryd.f53) [1, 1, 1, 1, 0, 1, 0, 0, 1, 1, 1])) (evC (spec_addLimbs_E N) (codeAt (bodyOf Tryd.f53) [1, 1, 1, 1, 0, 1, 0, 0, 1, 1, 1])) (kSeq (advOf (spec_addLimbs_E N) (codeAt (bodyOf Tryd.f53) [1, 1, 1, 1, 0, 1, 0, 0])) (fun st K => loopN (advOf (spec_addLimbs_E N) (codeAt (bodyOf Tryd.f53) [1, 1, 1, 1, 0, 1, 0, 0])) (evC (spec_addLimbs_E N) (codeAt (bodyOf Tryd.f53) [1, 1, 1, 1, 0, 1, 0, 0])) m1 st K) (kBlock 0 (kSeq (advOf (spec_addLimbs_E N) (codeAt (bodyOf Tryd.f53) [1, 1, 1, 1, 1])) (evC (spec_addLimbs_E N) (codeAt (bodyOf Tryd.f53) [1, 1, 1, 1, 1])) (kEnd (spec_addLimbs_E N) [] Tryd.f53.results.toList [(.list (.int .u32))])))))))
noncomputable def spec_addLimbs_e1 (N : Nat) (n : Nat) (v4 : (List Int)) (v3 : (List Int)) (v9 : Int) (v10 : Int) (v11 : (List Int)) : Option (HR [(.list (.int .u32))]) :=
  loopN (advOf (spec_addLimbs_E N) (codeAt (bodyOf Tryd.f53) [1, 1, 1, 1, 0, 1, 0, 0])) (evC (spec_addLimbs_E N) (codeAt (bodyOf Tryd.f53) [1, 1, 1, 1, 0, 1, 0, 0])) n ⟨[(1, .pv (.list (.int .u32)) v4), (5, .own (.int .u32) 90600), (6, .pv (.int .u64) v9), (21, .pv (.list (.int .u32)) v3), (22, .pv (.int .i64) (v3.length : Int)), (23, .pv (.int .i64) v10)], [(90600, .arr 78 (.int .u32) v11)], []⟩ (kBlock 0 (kSeq (advOf (spec_addLimbs_E N) (codeAt (bodyOf Tryd.f53) [1, 1, 1, 1, 1])) (evC (spec_addLimbs_E N) (codeAt (bodyOf Tryd.f53) [1, 1, 1, 1, 1])) (kEnd (spec_addLimbs_E N) [] Tryd.f53.results.toList [(.list (.int .u32))])))
noncomputable def spec_addLimbs_e0 (N : Nat) (v3 : (List Int)) (v4 : (List Int)) : Option (HR [(.list (.int .u32))]) :=
  gate N (evC (spec_addLimbs_E N) (codeAt (bodyOf Tryd.f53) [1, 1]) ⟨[(0, .pv (.list (.int .u32)) v3), (1, .pv (.list (.int .u32)) v4)], [], []⟩ (kEnd (spec_addLimbs_E N) [] Tryd.f53.results.toList [(.list (.int .u32))]))
theorem spec_addLimbs_t2 (N : Nat) (m1 : Nat) (v4 : (List Int)) (v3 : (List Int)) (v10 : Int) (v11 : (List Int)) (v14 : Int) : spec_addLimbs_e2 N m1 v4 v3 v10 v11 v14 = spec_addLimbs_j2 N (spec_addLimbs_e1 N m1 v4 v3) v4 v3 v10 v11 v14 := by
  exact (congrArg (gate N) (show evC (spec_addLimbs_E N) (codeAt (bodyOf Tryd.f53) [1, 1, 1, 1, 0, 1, 0, 0, 1, 1, 0, 0, 1, 1, 1]) ⟨[(1, .pv (.list (.int .u32)) v4), (5, .own (.int .u32) 90600), (9, .pv (.int .u64) v14), (21, .pv (.list (.int .u32)) v3), (22, .pv (.int .i64) (v3.length : Int)), (23, .pv (.int .i64) v10)], [(90600, .arr 78 (.int .u32) v11)], []⟩ (kBlock 1 (kSeq (advOf (spec_addLimbs_E N) (codeAt (bodyOf Tryd.f53) [1, 1, 1, 1, 0, 1, 0, 0, 1, 1, 1])) (evC (spec_addLimbs_E N) (codeAt (bodyOf Tryd.f53) [1, 1, 1, 1, 0, 1, 0, 0, 1, 1, 1])) (kSeq (advOf (spec_addLimbs_E N) (codeAt (bodyOf Tryd.f53) [1, 1, 1, 1, 0, 1, 0, 0])) (fun st K => loopN (advOf (spec_addLimbs_E N) (codeAt (bodyOf Tryd.f53) [1, 1, 1, 1, 0, 1, 0, 0])) (evC (spec_addLimbs_E N) (codeAt (bodyOf Tryd.f53) [1, 1, 1, 1, 0, 1, 0, 0])) m1 st K) (kBlock 0 (kSeq (advOf (spec_addLimbs_E N) (codeAt (bodyOf Tryd.f53) [1, 1, 1, 1, 1])) (evC (spec_addLimbs_E N) (codeAt (bodyOf Tryd.f53) [1, 1, 1, 1, 1])) (kEnd (spec_addLimbs_E N) [] Tryd.f53.results.toList [(.list (.int .u32))])))))) = spec_addLimbs_g2 N v4 v3 v10 v11 (spec_addLimbs_e1 N m1 v4 v3) v14 from by kernel_rfl)).trans (by rfl)
theorem spec_addLimbs_t1 (N : Nat) : ∀ (n : Nat) (v4 : (List Int)) (v3 : (List Int)) (v9 : Int) (v10 : Int) (v11 : (List Int)), spec_addLimbs_e1 N n v4 v3 v9 v10 v11 = spec_addLimbs_l1 N n v4 v3 v9 v10 v11
  | 0, _, _, _, _, _ => rfl
  | n + 1, v4, v3, v9, v10, v11 => by
    have h2 : (spec_addLimbs_e2 N n v4 v3) = (spec_addLimbs_j2 N (spec_addLimbs_e1 N n v4 v3) v4 v3) := by funext v10 v11 v14; exact spec_addLimbs_t2 N n v4 v3 v10 v11 v14
    have h : spec_addLimbs_e1 N n v4 v3 = spec_addLimbs_l1 N n v4 v3 := by funext v9 v10 v11; exact spec_addLimbs_t1 N n v4 v3 v9 v10 v11
    exact (show spec_addLimbs_e1 N (n + 1) v4 v3 v9 v10 v11 = spec_addLimbs_g1 N v4 v3 (spec_addLimbs_e2 N n v4 v3) (spec_addLimbs_e1 N n v4 v3) v9 v10 v11 from by kernel_rfl).trans (by rw [h2, h]; rfl)
theorem spec_addLimbs_t0 (N : Nat) (v3 : (List Int)) (v4 : (List Int)) : spec_addLimbs_e0 N v3 v4 = spec_addLimbs_j0 N v3 v4 := by
  have h1 : (spec_addLimbs_e1 N N) = (spec_addLimbs_l1 N N) := by funext v4 v3 v9 v10 v11; exact spec_addLimbs_t1 N N v4 v3 v9 v10 v11
  exact (congrArg (gate N) (show evC (spec_addLimbs_E N) (codeAt (bodyOf Tryd.f53) [1, 1]) ⟨[(0, .pv (.list (.int .u32)) v3), (1, .pv (.list (.int .u32)) v4)], [], []⟩ (kEnd (spec_addLimbs_E N) [] Tryd.f53.results.toList [(.list (.int .u32))]) = spec_addLimbs_g0 N (spec_addLimbs_e1 N N) v3 v4 from by kernel_rfl)).trans (by rw [h1]; rfl)
theorem spec_addLimbs_t (N : Nat) (v1 : (List Int)) (v2 : (List Int)) : evF (spec_addLimbs_E N) [] Tryd.f53 [.k (.list (.int .u32)), .k (.list (.int .u32))] [(.list (.int .u32))] (v1, v2, ()) = spec_addLimbs N v1 v2 := by
  have h0 : (spec_addLimbs_e0 N) = (spec_addLimbs_j0 N) := by funext v3 v4; exact spec_addLimbs_t0 N v3 v4
  exact (show evF (spec_addLimbs_E N) [] Tryd.f53 [.k (.list (.int .u32)), .k (.list (.int .u32))] [(.list (.int .u32))] (v1, v2, ()) = spec_addLimbs_g N v1 v2 (spec_addLimbs_e0 N) from by kernel_rfl).trans (by rw [h0]; rfl)
noncomputable def spec_addLimbs_con (N : Nat) : Con := ⟨53, [.k (.list (.int .u32)), .k (.list (.int .u32))], [(.list (.int .u32))], fun x => spec_addLimbs N x.1 x.2.1⟩
theorem spec_addLimbs_s (N : Nat) : (spec_addLimbs_con N).Sound Tryd.prog (GL N) :=
  Con.sound_of (c := spec_addLimbs_con N) (E := (spec_addLimbs_E N)) (idle := []) Tryd.func53 (by kernel_rfl) (by kernel_rfl) ⟨(allCons (spec_trim_s N) allNil), allNil, rfl⟩ allNil (fun x y h => (spec_addLimbs_t N x.1 x.2.1).trans h)
/-- pub-orthodrome/spec.cmpLimbs -/
noncomputable def spec_cmpLimbs_E (N : Nat) : Env := ⟨Tryd.prog, N, [], [(0, ⟨[], [], [0, 1], [], none⟩), (1, ⟨[], [], [0, 1], [], none⟩), (2, ⟨[], [], [0, 1, 10], [], none⟩), (3, ⟨[], [], [15], [], none⟩), (4, ⟨[], [], [], [], none⟩), (5, ⟨[], [], [0, 1], [], none⟩), (6, ⟨[], [], [0, 1, 5], [], none⟩), (7, ⟨[], [], [0, 1, 5], [], none⟩), (8, ⟨[], [], [0, 1, 5], [], none⟩), (9, ⟨[], [], [0, 1, 5, 31], [], none⟩), (10, ⟨[], [], [40], [], none⟩), (11, ⟨[], [], [], [], none⟩), (12, ⟨[], [], [], [], none⟩)], kdL [], [], [], (GL N)⟩
def spec_cmpLimbs_g0 (N : Nat) (v1 : (List Int)) (v2 : (List Int)) (r0 : Int → Option (Int)) (v7 : Int) : Option (Int) :=
  (bif (decide ((v7 : Int) ≥ 0)) then ((nth v1 v7).bind fun v8 => (nth v2 v7).bind fun v9 => (bif (v8 != v9) then ((nth v1 v7).bind fun v10 => (nth v2 v7).bind fun v11 => (bif (decide ((v10 : Int) < v11)) then (some (-1)) else (some 1))) else ((r0 (IntKind.i64.wrap (v7 - 1)))))) else (some 0))
def spec_cmpLimbs_l0 (N : Nat) : Nat → (List Int) → (List Int) → Int → Option (Int)
  | 0, _, _, _ => none
  | n + 1, v1, v2, v7 => spec_cmpLimbs_g0 N v1 v2 (spec_cmpLimbs_l0 N n v1 v2) v7
def spec_cmpLimbs_g (N : Nat) (v1 : (List Int)) (v2 : (List Int)) (c0 : (List Int) → (List Int) → Int → Option (Int)) : Option (Int) :=
  (bif ((v1.length : Int) != (v2.length : Int)) then (bif (decide (((v1.length : Int) : Int) < (v2.length : Int))) then (some (-1)) else (some 1)) else ((c0 v1 v2 (IntKind.i64.wrap ((v1.length : Int) - 1)))))
def spec_cmpLimbs (N : Nat) (v1 : (List Int)) (v2 : (List Int)) : Option (Int) :=
  spec_cmpLimbs_g N v1 v2 (spec_cmpLimbs_l0 N N)
set_option maxRecDepth 100000
noncomputable def spec_cmpLimbs_e0 (N : Nat) (n : Nat) (v1 : (List Int)) (v2 : (List Int)) (v7 : Int) : Option (HR [(.int .i64)]) :=
  loopN (advOf (spec_cmpLimbs_E N) (codeAt (bodyOf Tryd.f54) [1, 1, 0, 1, 0, 0])) (evC (spec_cmpLimbs_E N) (codeAt (bodyOf Tryd.f54) [1, 1, 0, 1, 0, 0])) n ⟨[(0, .pv (.list (.int .u32)) v1), (1, .pv (.list (.int .u32)) v2), (5, .pv (.int .i64) v7)], [], []⟩ (kBlock 0 (kSeq (advOf (spec_cmpLimbs_E N) (codeAt (bodyOf Tryd.f54) [1, 1, 1])) (evC (spec_cmpLimbs_E N) (codeAt (bodyOf Tryd.f54) [1, 1, 1])) (kEnd (spec_cmpLimbs_E N) [] Tryd.f54.results.toList [(.int .i64)])))
theorem spec_cmpLimbs_t0 (N : Nat) : ∀ (n : Nat) (v1 : (List Int)) (v2 : (List Int)) (v7 : Int), spec_cmpLimbs_e0 N n v1 v2 v7 = spec_cmpLimbs_l0 N n v1 v2 v7
  | 0, _, _, _ => rfl
  | n + 1, v1, v2, v7 => by
    have h : spec_cmpLimbs_e0 N n v1 v2 = spec_cmpLimbs_l0 N n v1 v2 := by funext v7; exact spec_cmpLimbs_t0 N n v1 v2 v7
    exact (show spec_cmpLimbs_e0 N (n + 1) v1 v2 v7 = spec_cmpLimbs_g0 N v1 v2 (spec_cmpLimbs_e0 N n v1 v2) v7 from by kernel_rfl).trans (by rw [h]; rfl)
theorem spec_cmpLimbs_t (N : Nat) (v1 : (List Int)) (v2 : (List Int)) : evF (spec_cmpLimbs_E N) [] Tryd.f54 [.k (.list (.int .u32)), .k (.list (.int .u32))] [(.int .i64)] (v1, v2, ()) = spec_cmpLimbs N v1 v2 := by
  have h0 : (spec_cmpLimbs_e0 N N) = (spec_cmpLimbs_l0 N N) := by funext v1 v2 v7; exact spec_cmpLimbs_t0 N N v1 v2 v7
  exact (show evF (spec_cmpLimbs_E N) [] Tryd.f54 [.k (.list (.int .u32)), .k (.list (.int .u32))] [(.int .i64)] (v1, v2, ()) = spec_cmpLimbs_g N v1 v2 (spec_cmpLimbs_e0 N N) from by kernel_rfl).trans (by rw [h0]; rfl)
noncomputable def spec_cmpLimbs_con (N : Nat) : Con := ⟨54, [.k (.list (.int .u32)), .k (.list (.int .u32))], [(.int .i64)], fun x => spec_cmpLimbs N x.1 x.2.1⟩
theorem spec_cmpLimbs_s (N : Nat) : (spec_cmpLimbs_con N).Sound Tryd.prog (GL N) :=
  Con.sound_of (c := spec_cmpLimbs_con N) (E := (spec_cmpLimbs_E N)) (idle := []) Tryd.func54 (by kernel_rfl) (by kernel_rfl) ⟨allNil, allNil, rfl⟩ allNil (fun x y h => (spec_cmpLimbs_t N x.1 x.2.1).trans h)
/-- pub-orthodrome/spec.subLimbs -/
noncomputable def spec_subLimbs_E (N : Nat) : Env := ⟨Tryd.prog, N, [spec_trim_con N], [(0, ⟨[], [], [0, 1], [], none⟩), (1, ⟨[], [], [0, 1], [], none⟩), (2, ⟨[], [], [0, 1, 5], [12], none⟩), (3, ⟨[], [], [0, 1, 5, 6], [12], none⟩), (4, ⟨[(5, 78, (.int .u32), 90400)], [], [1, 5, 6, 13, 14, 15], [90400], none⟩), (5, ⟨[], [], [1, 5, 6, 13, 14, 15], [90400], none⟩), (6, ⟨[], [], [1, 5, 6, 7, 8, 13, 14, 15], [90400], none⟩), (7, ⟨[], [], [1, 5, 7, 8, 9, 13, 14, 15], [90400], none⟩), (8, ⟨[], [], [1, 5, 7, 8, 9, 13, 14, 15, 24], [90400], none⟩), (9, ⟨[], [], [1, 5, 8, 9, 13, 14, 15], [90400], some N⟩), (10, ⟨[], [], [1, 5, 6, 8, 9, 13, 14, 15], [90400], none⟩), (11, ⟨[], [], [1, 5, 6, 8, 9, 13, 14, 15, 35], [90400], none⟩), (12, ⟨[], [], [1, 5, 6, 8, 9, 13, 14, 15], [90400], some N⟩), (13, ⟨[], [], [1, 5, 6, 13, 14, 15], [46], none⟩), (14, ⟨[], [], [5], [90400], none⟩)], kdL [(78, (.int .u32))], [], [], (GL N)⟩
def spec_subLimbs_g2 (N : Nat) (v2 : (List Int)) (v1 : (List Int)) (v11 : Int) (v13 : Int) (v9 : Int) (v10 : (List Int)) (r0 : Int → Int → (List Int) → Option ((List Int))) (v14 : Int) : Option ((List Int)) :=
  (lim ((v10.length + ([(IntKind.u32.wrap (IntKind.u64.wrap ((IntKind.u64.wrap ((IntKind.u64.wrap v11) + (IntKind.u64.wrap (v14 * 2 ^ (min (32 : Int).toNat (IntKind.bits .u64)))))) - v13)))] : List Int).length) * 4)).bind fun _ => ((r0 v14 (IntKind.i64.wrap (v9 + 1)) (v10 ++ ([(IntKind.u32.wrap (IntKind.u64.wrap ((IntKind.u64.wrap ((IntKind.u64.wrap v11) + (IntKind.u64.wrap (v14 * 2 ^ (min (32 : Int).toNat (IntKind.bits .u64)))))) - v13)))] : List Int))))
def spec_subLimbs_j2 (N : Nat) (r0 : Int → Int → (List Int) → Option ((List Int))) (v2 : (List Int)) (v1 : (List Int)) (v11 : Int) (v13 : Int) (v9 : Int) (v10 : (List Int)) (v14 : Int) : Option ((List Int)) :=
  gate N (spec_subLimbs_g2 N v2 v1 v11 v13 v9 v10 r0 v14)
def spec_subLimbs_g1 (N : Nat) (v2 : (List Int)) (v1 : (List Int)) (v11 : Int) (v9 : Int) (v10 : (List Int)) (c2 : Int → Int → Int → (List Int) → Int → Option ((List Int))) (r0 : Int → Int → (List Int) → Option ((List Int))) (v13 : Int) : Option ((List Int)) :=
  (bif (decide (((IntKind.u64.wrap v11) : Int) < v13)) then (c2 v11 v13 v9 v10 1) else (c2 v11 v13 v9 v10 0))
def spec_subLimbs_j1 (N : Nat) (r0 : Int → Int → (List Int) → Option ((List Int))) (v2 : (List Int)) (v1 : (List Int)) (v11 : Int) (v9 : Int) (v10 : (List Int)) (v13 : Int) : Option ((List Int)) :=
  gate N (spec_subLimbs_g1 N v2 v1 v11 v9 v10 (spec_subLimbs_j2 N r0 v2 v1) r0 v13)
def spec_subLimbs_g0 (N : Nat) (v2 : (List Int)) (v1 : (List Int)) (c1 : Int → Int → (List Int) → Int → Option ((List Int))) (r0 : Int → Int → (List Int) → Option ((List Int))) (v8 : Int) (v9 : Int) (v10 : (List Int)) : Option ((List Int)) :=
  (bif (decide ((v9 : Int) < (v1.length : Int))) then ((nth v1 v9).bind fun v11 => (bif (decide ((v9 : Int) < (v2.length : Int))) then ((nth v2 v9).bind fun v12 => (c1 v11 v9 v10 (IntKind.u64.wrap (v8 + (IntKind.u64.wrap v12))))) else (c1 v11 v9 v10 v8))) else ((spec_trim N v10).bind fun v15 => (some v15)))
def spec_subLimbs_l0 (N : Nat) : Nat → (List Int) → (List Int) → Int → Int → (List Int) → Option ((List Int))
  | 0, _, _, _, _, _ => none
  | n + 1, v2, v1, v8, v9, v10 => spec_subLimbs_g0 N v2 v1 (spec_subLimbs_j1 N (spec_subLimbs_l0 N n v2 v1) v2 v1) (spec_subLimbs_l0 N n v2 v1) v8 v9 v10
def spec_subLimbs_g (N : Nat) (v1 : (List Int)) (v2 : (List Int)) (c0 : (List Int) → (List Int) → Int → Int → (List Int) → Option ((List Int))) : Option ((List Int)) :=
  ((mkn 0 (v1.length : Int) 4).bind fun v3 => ((c0 v2 v1 0 0 (List.replicate v3 (0 : Int)))))
def spec_subLimbs (N : Nat) (v1 : (List Int)) (v2 : (List Int)) : Option ((List Int)) :=
  spec_subLimbs_g N v1 v2 (spec_subLimbs_l0 N N)
set_option maxRecDepth 100000
noncomputable def spec_subLimbs_e2 (N : Nat) (m0 : Nat) (v2 : (List Int)) (v1 : (List Int)) (v11 : Int) (v13 : Int) (v9 : Int) (v10 : (List Int)) (v14 : Int) : Option (HR [(.list (.int .u32))]) :=
  gate N (evC (spec_subLimbs_E N) (codeAt (bodyOf Tryd.f55) [1, 1, 1, 0, 1, 0, 0, 1, 1, 0, 0, 1, 1, 1, 1, 1]) ⟨[(1, .pv (.list (.int .u32)) v2), (5, .own (.int .u32) 90400), (6, .pv (.int .u64) v14), (8, .pv (.int .u32) v11), (9, .pv (.int .u64) v13), (13, .pv (.list (.int .u32)) v1), (14, .pv (.int .i64) (v1.length : Int)), (15, .pv (.int .i64) v9)], [(90400, .arr 78 (.int .u32) v10)], []⟩ (kBlock 1 (kSeq (advOf (spec_subLimbs_E N) (codeAt (bodyOf Tryd.f55) [1, 1, 1, 0, 1, 0, 0, 1, 1, 1])) (evC (spec_subLimbs_E N) (codeAt (bodyOf Tryd.f55) [1, 1, 1, 0, 1, 0, 0, 1, 1, 1])) (kSeq (advOf (spec_subLimbs_E N) (codeAt (bodyOf Tryd.f55) [1, 1, 1, 0, 1, 0, 0])) (fun st K => loopN (advOf (spec_subLimbs_E N) (codeAt (bodyOf Tryd.f55) [1, 1, 1, 0, 1, 0, 0])) (evC (spec_subLimbs_E N) (codeAt (bodyOf Tryd.f55) [1, 1, 1, 0, 1, 0, 0])) m0 st K) (kBlock 0 (kSeq (advOf (spec_subLimbs_E N) (codeAt (bodyOf Tryd.f55) [1, 1, 1, 1])) (evC (spec_subLimbs_E N) (codeAt (bodyOf Tryd.f55) [1, 1, 1, 1])) (kEnd (spec_subLimbs_E N) [] Tryd.f55.results.toList [(.list (.int .u32))])))))))
noncomputable def spec_subLimbs_e1 (N : Nat) (m0 : Nat) (v2 : (List Int)) (v1 : (List Int)) (v11 : Int) (v9 : Int) (v10 : (List Int)) (v13 : Int) : Option (HR [(.list (.int .u32))]) :=
  gate N (evC (spec_subLimbs_E N) (codeAt (bodyOf Tryd.f55) [1, 1, 1, 0, 1, 0, 0, 1, 1, 0, 0, 1, 1, 1]) ⟨[(1, .pv (.list (.int .u32)) v2), (5, .own (.int .u32) 90400), (8, .pv (.int .u32) v11), (9, .pv (.int .u64) v13), (13, .pv (.list (.int .u32)) v1), (14, .pv (.int .i64) (v1.length : Int)), (15, .pv (.int .i64) v9)], [(90400, .arr 78 (.int .u32) v10)], []⟩ (kBlock 1 (kSeq (advOf (spec_subLimbs_E N) (codeAt (bodyOf Tryd.f55) [1, 1, 1, 0, 1, 0, 0, 1, 1, 1])) (evC (spec_subLimbs_E N) (codeAt (bodyOf Tryd.f55) [1, 1, 1, 0, 1, 0, 0, 1, 1, 1])) (kSeq (advOf (spec_subLimbs_E N) (codeAt (bodyOf Tryd.f55) [1, 1, 1, 0, 1, 0, 0])) (fun st K => loopN (advOf (spec_subLimbs_E N) (codeAt (bodyOf Tryd.f55) [1, 1, 1, 0, 1, 0, 0])) (evC (spec_subLimbs_E N) (codeAt (bodyOf Tryd.f55) [1, 1, 1, 0, 1, 0, 0])) m0 st K) (kBlock 0 (kSeq (advOf (spec_subLimbs_E N) (codeAt (bodyOf Tryd.f55) [1, 1, 1, 1])) (evC (spec_subLimbs_E N) (codeAt (bodyOf Tryd.f55) [1, 1, 1, 1])) (kEnd (spec_subLimbs_E N) [] Tryd.f55.results.toList [(.list (.int .u32))])))))))
noncomputable def spec_subLimbs_e0 (N : Nat) (n : Nat) (v2 : (List Int)) (v1 : (List Int)) (v8 : Int) (v9 : Int) (v10 : (List Int)) : Option (HR [(.list (.int .u32))]) :=
  loopN (advOf (spec_subLimbs_E N) (codeAt (bodyOf Tryd.f55) [1, 1, 1, 0, 1, 0, 0])) (evC (spec_subLimbs_E N) (codeAt (bodyOf Tryd.f55) [1, 1, 1, 0, 1, 0, 0])) n ⟨[(1, .pv (.list (.int .u32)) v2), (5, .own (.int .u32) 90400), (6, .pv (.int .u64) v8), (13, .pv (.list (.int .u32)) v1), (14, .pv (.int .i64) (v1.length : Int)), (15, .pv (.int .i64) v9)], [(90400, .arr 78 (.int .u32) v10)], []⟩ (kBlock 0 (kSeq (advOf (spec_subLimbs_E N) (codeAt (bodyOf Tryd.f55) [1, 1, 1, 1])) (evC (spec_subLimbs_E N) (codeAt (bodyOf Tryd.f55) [1, 1, 1, 1])) (kEnd (spec_subLimbs_E N) [] Tryd.f55.results.toList [(.list (.int .u32))])))
theorem spec_subLimbs_t2 (N : Nat) (m0 : Nat) (v2 : (List Int)) (v1 : (List Int)) (v11 : Int) (v13 : Int) (v9 : Int) (v10 : (List Int)) (v14 : Int) : spec_subLimbs_e2 N m0 v2 v1 v11 v13 v9 v10 v14 = spec_subLimbs_j2 N (spec_subLimbs_e0 N m0 v2 v1) v2 v1 v11 v13 v9 v10 v14 := by
  exact (congrArg (gate N) (show evC (spec_subLimbs_E N) (codeAt (bodyOf Tryd.f55) [1, 1, 1, 0, 1, 0, 0, 1, 1, 0, 0, 1, 1, 1, 1, 1]) ⟨[(1, .pv (.list (.int .u32)) v2), (5, .own (.int .u32) 90400), (6, .pv (.int .u64) v14), (8, .pv (.int .u32) v11), (9, .pv (.int .u64) v13), (13, .pv (.list (.int .u32)) v1), (14, .pv (.int .i64) (v1.length : Int)), (15, .pv (.int .i64) v9)], [(90400, .arr 78 (.int .u32) v10)], []⟩ (kBlock 1 (kSeq (advOf (spec_subLimbs_E N) (codeAt (bodyOf Tryd.f55) [1, 1, 1, 0, 1, 0, 0, 1, 1, 1])) (evC (spec_subLimbs_E N) (codeAt (bodyOf Tryd.f55) [1, 1, 1, 0, 1, 0, 0, 1, 1, 1])) (kSeq (advOf (spec_subLimbs_E N) (codeAt (bodyOf Tryd.f55) [1, 1, 1, 0, 1, 0, 0])) (fun st K => loopN (advOf (spec_subLimbs_E N) (codeAt (bodyOf Tryd.f55) [1, 1, 1, 0, 1, 0, 0])) (evC (spec_subLimbs_E N) (codeAt (bodyOf Tryd.f55) [1, 1, 1, 0, 1, 0, 0])) m0 st K) (kBlock 0 (kSeq (advOf (spec_subLimbs_E N) (codeAt (bodyOf Tryd.f55) [1, 1, 1, 1])) (evC (spec_subLimbs_E N) (codeAt (bodyOf Tryd.f55) [1, 1, 1, 1])) (kEnd (spec_subLimbs_E N) [] Tryd.f55.results.toList [(.list (.int .u32))])))))) = spec_subLimbs_g2 N v2 v1 v11 v13 v9 v10 (spec_subLimbs_e0 N m0 v2 v1) v14 from by kernel_rfl)).trans (by rfl)
theorem spec_subLimbs_t1 (N : Nat) (m0 : Nat) (v2 : (List Int)) (v1 : (List Int)) (v11 : Int) (v9 : Int) (v10 : (List Int)) (v13 : Int) : spec_subLimbs_e1 N m0 v2 v1 v11 v9 v10 v13 = spec_subLimbs_j1 N (spec_subLimbs_e0 N m0 v2 v1) v2 v1 v11 v9 v10 v13 := by
  have h2 : (spec_subLimbs_e2 N m0 v2 v1) = (spec_subLimbs_j2 N (spec_subLimbs_e0 N m0 v2 v1) v2 v1) := by funext v11 v13 v9 v10 v14; exact spec_subLimbs_t2 N m0 v2 v1 v11 v13 v9 v10 v14
  exact (congrArg (gate N) (show evC (spec_subLimbs_E N) (codeAt (bodyOf Tryd.f55) [1, 1, 1, 0, 1, 0, 0, 1, 1, 0, 0, 1, 1, 1]) ⟨[(1, .pv (.list (.int .u32)) v2), (5, .own (.int .u32) 90400), (8, .pv (.int .u32) v11), (9, .pv (.int .u64) v13), (13, .pv (.list (.int .u32)) v1), (14, .pv (.int .i64) (v1.length : Int)), (15, .pv (.int .i64) v9)], [(90400, .arr 78 (.int .u32) v10)], []⟩ (kBlock 1 (kSeq (advOf (spec_subLimbs_E N) (codeAt (bodyOf Tryd.f55) [1, 1, 1, 0, 1, 0, 0, 1, 1, 1])) (evC (spec_subLimbs_E N) (codeAt (bodyOf Tryd.f55) [1, 1, 1, 0, 1, 0, 0, 1, 1, 1])) (kSeq (advOf (spec_subLimbs_E N) (codeAt (bodyOf Tryd.f55) [1, 1, 1, 0, 1, 0, 0])) (fun st K => loopN (advOf (spec_subLimbs_E N) (codeAt (bodyOf Tryd.f55) [1, 1, 1, 0, 1, 0, 0])) (evC (spec_subLimbs_E N) (codeAt (bodyOf Tryd.f55) [1, 1, 1, 0, 1, 0, 0])) m0 st K) (kBlock 0 (kSeq (advOf (spec_subLimbs_E N) (codeAt (bodyOf Tryd.f55) [1, 1, 1, 1])) (evC (spec_subLimbs_E N) (codeAt (bodyOf Tryd.f55) [1, 1, 1, 1])) (kEnd (spec_subLimbs_E N) [] Tryd.f55.results.toList [(.list (.int .u32))])))))) = spec_subLimbs_g1 N v2 v1 v11 v9 v10 (spec_subLimbs_e2 N m0 v2 v1) (spec_subLimbs_e0 N m0 v2 v1) v13 from by kernel_rfl)).trans (by rw [h2]; rfl)
theorem spec_subLimbs_t0 (N : Nat) : ∀ (n : Nat) (v2 : (List Int)) (v1 : (List Int)) (v8 : Int) (v9 : Int) (v10 : (List Int)), spec_subLimbs_e0 N n v2 v1 v8 v9 v10 = spec_subLimbs_l0 N n v2 v1 v8 v9 v10
  | 0, _, _, _, _, _ => rfl
  | n + 1, v2, v1, v8, v9, v10 => by
    have h1 : (spec_subLimbs_e1 N n v2 v1) = (spec_subLimbs_j1 N (spec_subLimbs_e0 N n v2 v1) v2 v1) := by funext v11 v9 v10 v13; exact spec_subLimbs_t1 N n v2 v1 v11 v9 v10 v13
    have h : spec_subLimbs_e0 N n v2 v1 = spec_subLimbs_l0 N n v2 v1 := by funext v8 v9 v10; exact spec_subLimbs_t0 N n v2 v1 v8 v9 v10
    exact (show spec_subLimbs_e0 N (n + 1) v2 v1 v8 v9 v10 = spec_subLimbs_g0 N v2 v1 (spec_subLimbs_e1 N n v2 v1) (spec_subLimbs_e0 N n v2 v1) v8 v9 v10 from by kernel_rfl).trans (by rw [h1, h]; rfl)
theorem spec_subLimbs_t (N : Nat) (v1 : (List Int)) (v2 : (List Int)) : evF (spec_subLimbs_E N) [] Tryd.f55 [.k (.list (.int .u32)), .k (.list (.int .u32))] [(.list (.int .u32))] (v1, v2, ()) = spec_subLimbs N v1 v2 := by
  have h0 : (spec_subLimbs_e0 N N) = (spec_subLimbs_l0 N N) := by funext v2 v1 v8 v9 v10; exact spec_subLimbs_t0 N N v2 v1 v8 v9 v10
  exact (show evF (spec_subLimbs_E N) [] Tryd.f55 [.k (.list (.int .u32)), .k (.list (.int .u32))] [(.list (.int .u32))] (v1, v2, ()) = spec_subLimbs_g N v1 v2 (spec_subLimbs_e0 N N) from by kernel_rfl).trans (by rw [h0]; rfl)
noncomputable def spec_subLimbs_con (N : Nat) : Con := ⟨55, [.k (.list (.int .u32)), .k (.list (.int .u32))], [(.list (.int .u32))], fun x => spec_subLimbs N x.1 x.2.1⟩
theorem spec_subLimbs_s (N : Nat) : (spec_subLimbs_con N).Sound Tryd.prog (GL N) :=
  Con.sound_of (c := spec_subLimbs_con N) (E := (spec_subLimbs_E N)) (idle := []) Tryd.func55 (by kernel_rfl) (by kernel_rfl) ⟨(allCons (spec_trim_s N) allNil), allNil, rfl⟩ allNil (fun x y h => (spec_subLimbs_t N x.1 x.2.1).trans h)
/-- (pub-orthodrome/spec.Whole).Add -/
noncomputable def spec_Whole_Add_E (N : Nat) : Env := ⟨Tryd.prog, N, [spec_addLimbs_con N, spec_cmpLimbs_con N, spec_subLimbs_con N], [(0, ⟨[], [], [0, 1], [], none⟩), (1, ⟨[], [], [2, 3, 4], [2, 3, 4], none⟩), (2, ⟨[], [], [2, 3, 4, 9], [2, 3, 4], none⟩), (3, ⟨[], [], [2, 3, 4], [2, 3, 4], none⟩), (4, ⟨[], [], [2, 3, 4, 22], [2, 3, 4], none⟩), (5, ⟨[], [], [2, 3, 4, 22, 23], [2, 3, 4], none⟩), (7, ⟨[], [], [2, 3, 4, 26], [2, 3, 4], none⟩), (8, ⟨[], [], [2, 3, 4], [2, 3, 4], none⟩)], kdL [], [], [], (GL N)⟩
def spec_Whole_Add_g (N : Nat) (v1 : (Bool × ((List Int) × Unit))) (v2 : (Bool × ((List Int) × Unit))) : Option ((Bool × ((List Int) × Unit))) :=
  (bif (v1.1 == v2.1) then ((spec_addLimbs N v1.2.1 v2.2.1).bind fun v3 => (some (v1.1, v3, ()))) else ((spec_cmpLimbs N v1.2.1 v2.2.1).bind fun v4 => (bif (v4 == 0) then (some (false, ([] : List Int), ())) else (bif (v4 == 1) then ((spec_subLimbs N v1.2.1 v2.2.1).bind fun v5 => (some (v1.1, v5, ()))) else ((spec_subLimbs N v2.2.1 v1.2.1).bind fun v6 => (some (v2.1, v6, ())))))))
def spec_Whole_Add (N : Nat) (v1 : (Bool × ((List Int) × Unit))) (v2 : (Bool × ((List Int) × Unit))) : Option ((Bool × ((List Int) × Unit))) :=
  spec_Whole_Add_g N v1 v2
set_option maxRecDepth 100000
theorem spec_Whole_Add_t (N : Nat) (v1 : (Bool × ((List Int) × Unit))) (v2 : (Bool × ((List Int) × Unit))) : evF (spec_Whole_Add_E N) [] Tryd.f46 [.k (.pair .bool (.pair (.list (.int .u32)) .unit)), .k (.pair .bool (.pair (.list (.int .u32)) .unit))] [(.pair .bool (.pair (.list (.int .u32)) .unit))] (v1, v2, ()) = spec_Whole_Add N v1 v2 := by
  exact (show evF (spec_Whole_Add_E N) [] Tryd.f46 [.k (.pair .bool (.pair (.list (.int .u32)) .unit)), .k (.pair .bool (.pair (.list (.int .u32)) .unit))] [(.pair .bool (.pair (.list (.int .u32)) .unit))] (v1, v2, ()) = spec_Whole_Add_g N v1 v2 from by kernel_rfl).trans (by rfl)
noncomputable def spec_Whole_Add_con (N : Nat) : Con := ⟨46, [.k (.pair .bool (.pair (.list (.int .u32)) .unit)), .k (.pair .bool (.pair (.list (.int .u32)) .unit))], [(.pair .bool (.pair (.list (.int .u32)) .unit))], fun x => spec_Whole_Add N x.1 x.2.1⟩
theorem spec_Whole_Add_s (N : Nat) : (spec_Whole_Add_con N).Sound Tryd.prog (GL N) :=
  Con.sound_of (c := spec_Whole_Add_con N) (E := (spec_Whole_Add_E N)) (idle := []) Tryd.func46 (by kernel_rfl) (by kernel_rfl) ⟨(allCons (spec_addLimbs_s N) (allCons (spec_cmpLimbs_s N) (allCons (spec_subLimbs_s N) allNil))), allNil, rfl⟩ allNil (fun x y h => (spec_Whole_Add_t N x.1 x.2.1).trans h)
/-- (pub-orthodrome/spec.Dyadic).Add -/
noncomputable def spec_Dyadic_Add_E (N : Nat) : Env := ⟨Tryd.prog, N, [spec_Dyadic_Sign_con N, spec_Whole_Up_con N, spec_Whole_Add_con N], [(0, ⟨[], [], [0, 1], [], none⟩), (1, ⟨[], [], [2, 3, 4], [2, 3, 4], none⟩), (2, ⟨[], [], [2, 3, 4, 5], [2, 3, 4], none⟩), (4, ⟨[], [], [2, 3, 4, 10], [2, 3, 4], none⟩), (6, ⟨[], [], [2, 3, 4, 15], [2, 3, 4], none⟩), (7, ⟨[], [], [2, 3, 4], [2, 3, 4], none⟩)], kdL [], [], [], (GL N)⟩
def spec_Dyadic_Add_g (N : Nat) (v1 : ((Bool × ((List Int) × Unit)) × (Int × Unit))) (v2 : ((Bool × ((List Int) × Unit)) × (Int × Unit))) : Option (((Bool × ((List Int) × Unit)) × (Int × Unit))) :=
  ((spec_Dyadic_Sign N ((v1.1.1, v1.1.2.1, ()), v1.2.1, ())).bind fun v3 => (bif (v3 == 0) then (some ((v2.1.1, v2.1.2.1, ()), v2.2.1, ())) else ((spec_Dyadic_Sign N ((v2.1.1, v2.1.2.1, ()), v2.2.1, ())).bind fun v4 => (bif (v4 == 0) then (some ((v1.1.1, v1.1.2.1, ()), v1.2.1, ())) else (bif (decide ((v1.2.1 : Int) > v2.2.1)) then ((spec_Whole_Up N (v1.1.1, v1.1.2.1, ()) (IntKind.i64.wrap (v1.2.1 - v2.2.1))).bind fun v5 => (spec_Whole_Add N v5 (v2.1.1, v2.1.2.1, ())).bind fun v6 => (some ((v6.1, v6.2.1, ()), v2.2.1, ()))) else ((spec_Whole_Up N (v2.1.1, v2.1.2.1, ()) (IntKind.i64.wrap (v2.2.1 - v1.2.1))).bind fun v7 => (spec_Whole_Add N v7 (v1.1.1, v1.1.2.1, ())).bind fun v8 => (some ((v8.1, v8.2.1, ()), v1.2.1, ()))))))))
def spec_Dyadic_Add (N : Nat) (v1 : ((Bool × ((List Int) × Unit)) × (Int × Unit))) (v2 : ((Bool × ((List Int) × Unit)) × (Int × Unit))) : Option (((Bool × ((List Int) × Unit)) × (Int × Unit))) :=
  spec_Dyadic_Add_g N v1 v2
set_option maxRecDepth 100000
theorem spec_Dyadic_Add_t (N : Nat) (v1 : ((Bool × ((List Int) × Unit)) × (Int × Unit))) (v2 : ((Bool × ((List Int) × Unit)) × (Int × Unit))) : evF (spec_Dyadic_Add_E N) [] Tryd.f36 [.k (.pair (.pair .bool (.pair (.list (.int .u32)) .unit)) (.pair (.int .i64) .unit)), .k (.pair (.pair .bool (.pair (.list (.int .u32)) .unit)) (.pair (.int .i64) .unit))] [(.pair (.pair .bool (.pair (.list (.int .u32)) .unit)) (.pair (.int .i64) .unit))] (v1, v2, ()) = spec_Dyadic_Add N v1 v2 := by
  exact (show evF (spec_Dyadic_Add_E N) [] Tryd.f36 [.k (.pair (.pair .bool (.pair (.list (.int .u32)) .unit)) (.pair (.int .i64) .unit)), .k (.pair (.pair .bool (.pair (.list (.int .u32)) .unit)) (.pair (.int .i64) .unit))] [(.pair (.pair .bool (.pair (.list (.int .u32)) .unit)) (.pair (.int .i64) .unit))] (v1, v2, ()) = spec_Dyadic_Add_g N v1 v2 from by kernel_rfl).trans (by rfl)
noncomputable def spec_Dyadic_Add_con (N : Nat) : Con := ⟨36, [.k (.pair (.pair .bool (.pair (.list (.int .u32)) .unit)) (.pair (.int .i64) .unit)), .k (.pair (.pair .bool (.pair (.list (.int .u32)) .unit)) (.pair (.int .i64) .unit))], [(.pair (.pair .bool (.pair (.list (.int .u32)) .unit)) (.pair (.int .i64) .unit))], fun x => spec_Dyadic_Add N x.1 x.2.1⟩
theorem spec_Dyadic_Add_s (N : Nat) : (spec_Dyadic_Add_con N).Sound Tryd.prog (GL N) :=
  Con.sound_of (c := spec_Dyadic_Add_con N) (E := (spec_Dyadic_Add_E N)) (idle := []) Tryd.func36 (by kernel_rfl) (by kernel_rfl) ⟨(allCons (spec_Dyadic_Sign_s N) (allCons (spec_Whole_Up_s N) (allCons (spec_Whole_Add_s N) allNil))), allNil, rfl⟩ allNil (fun x y h => (spec_Dyadic_Add_t N x.1 x.2.1).trans h)
/-- (pub-orthodrome/spec.Dyadic).Sub -/
noncomputable def spec_Dyadic_Sub_E (N : Nat) : Env := ⟨Tryd.prog, N, [spec_Dyadic_Minus_con N, spec_Dyadic_Add_con N], [(0, ⟨[], [], [0, 1], [], none⟩), (1, ⟨[], [], [2, 3, 4], [2, 3, 4], none⟩)], kdL [], [], [], (GL N)⟩
def spec_Dyadic_Sub_g (N : Nat) (v1 : ((Bool × ((List Int) × Unit)) × (Int × Unit))) (v2 : ((Bool × ((List Int) × Unit)) × (Int × Unit))) : Option (((Bool × ((List Int) × Unit)) × (Int × Unit))) :=
  ((spec_Dyadic_Minus N ((v2.1.1, v2.1.2.1, ()), v2.2.1, ())).bind fun v3 => (spec_Dyadic_Add N ((v1.1.1, v1.1.2.1, ()), v1.2.1, ()) v3).bind fun v4 => (some ((v4.1.1, v4.1.2.1, ()), v4.2.1, ())))
def spec_Dyadic_Sub (N : Nat) (v1 : ((Bool × ((List Int) × Unit)) × (Int × Unit))) (v2 : ((Bool × ((List Int) × Unit)) × (Int × Unit))) : Option (((Bool × ((List Int) × Unit)) × (Int × Unit))) :=
  spec_Dyadic_Sub_g N v1 v2
set_option maxRecDepth 100000
theorem spec_Dyadic_Sub_t (N : Nat) (v1 : ((Bool × ((List Int) × Unit)) × (Int × Unit))) (v2 : ((Bool × ((List Int) × Unit)) × (Int × Unit))) : evF (spec_Dyadic_Sub_E N) [] Tryd.f26 [.k (.pair (.pair .bool (.pair (.list (.int .u32)) .unit)) (.pair (.int .i64) .unit)), .k (.pair (.pair .bool (.pair (.list (.int .u32)) .unit)) (.pair (.int .i64) .unit))] [(.pair (.pair .bool (.pair (.list (.int .u32)) .unit)) (.pair (.int .i64) .unit))] (v1, v2, ()) = spec_Dyadic_Sub N v1 v2 := by
  exact (show evF (spec_Dyadic_Sub_E N) [] Tryd.f26 [.k (.pair (.pair .bool (.pair (.list (.int .u32)) .unit)) (.pair (.int .i64) .unit)), .k (.pair (.pair .bool (.pair (.list (.int .u32)) .unit)) (.pair (.int .i64) .unit))] [(.pair (.pair .bool (.pair (.list (.int .u32)) .unit)) (.pair (.int .i64) .unit))] (v1, v2, ()) = spec_Dyadic_Sub_g N v1 v2 from by kernel_rfl).trans (by rfl)
noncomputable def spec_Dyadic_Sub_con (N : Nat) : Con := ⟨26, [.k (.pair (.pair .bool (.pair (.list (.int .u32)) .unit)) (.pair (.int .i64) .unit)), .k (.pair (.pair .bool (.pair (.list (.int .u32)) .unit)) (.pair (.int .i64) .unit))], [(.pair (.pair .bool (.pair (.list (.int .u32)) .unit)) (.pair (.int .i64) .unit))], fun x => spec_Dyadic_Sub N x.1 x.2.1⟩
theorem spec_Dyadic_Sub_s (N : Nat) : (spec_Dyadic_Sub_con N).Sound Tryd.prog (GL N) :=
  Con.sound_of (c := spec_Dyadic_Sub_con N) (E := (spec_Dyadic_Sub_E N)) (idle := []) Tryd.func26 (by kernel_rfl) (by kernel_rfl) ⟨(allCons (spec_Dyadic_Minus_s N) (allCons (spec_Dyadic_Add_s N) allNil)), allNil, rfl⟩ allNil (fun x y h => (spec_Dyadic_Sub_t N x.1 x.2.1).trans h)
/-- (pub-orthodrome/spec.Whole).Mul -/
noncomputable def spec_Whole_Mul_E (N : Nat) : Env := ⟨Tryd.prog, N, [spec_trim_con N], [(0, ⟨[], [], [0, 1], [], none⟩), (1, ⟨[], [], [2, 3, 4], [2, 3, 4], none⟩), (2, ⟨[], [], [2, 3, 4, 5], [2, 3, 4, 19], none⟩), (3, ⟨[], [], [2, 3, 4, 5, 21, 22, 23], [2, 3, 4, 19], none⟩), (4, ⟨[], [], [2, 3, 4, 5, 21, 22, 23], [2, 3, 4, 19], none⟩), (5, ⟨[], [], [2, 3, 4, 5, 6, 7, 21, 22, 23], [2, 3, 4, 19], none⟩), (6, ⟨[], [], [2, 3, 4, 5, 6, 7, 8, 21, 22, 23], [2, 3, 4, 19], none⟩), (7, ⟨[], [], [2, 3, 4, 5, 6, 7, 8, 21, 22, 23, 29, 30, 31], [2, 3, 4, 19], none⟩), (8, ⟨[], [], [2, 3, 4, 5, 6, 7, 8, 21, 22, 23, 29, 30, 31], [2, 3, 4, 19], none⟩), (9, ⟨[], [], [2, 3, 4, 5, 6, 7, 8, 9, 10, 21, 22, 23, 29, 30, 31], [2, 3, 4, 19], none⟩), (10, ⟨[], [], [2, 3, 4, 5, 6, 7, 9, 11, 21, 22, 23, 29, 30, 31], [2, 3, 4, 19], none⟩), (11, ⟨[], [], [2, 3, 4, 5, 6, 7, 11, 21, 22, 23, 29, 30, 31], [2, 3, 4, 19], none⟩), (12, ⟨[], [], [2, 3, 4, 5, 6, 7, 8, 21, 22, 23, 29, 30, 31], [2, 3, 4, 19], none⟩), (13, ⟨[], [], [2, 3, 4, 5, 6, 8, 21, 22, 23], [2, 3, 4, 19], none⟩), (14, ⟨[], [], [2, 3, 4, 5, 21, 22, 23], [2, 3, 4, 19], none⟩), (15, ⟨[], [], [2, 3, 4, 5], [2, 3, 4, 19], none⟩), (16, ⟨[], [], [2, 3, 4, 5], [2, 3, 4], none⟩)], kdL [(78, (.int .u32))], [], [], (GL N)⟩
def spec_Whole_Mul_g1 (N : Nat) (v1 : (Bool × ((List Int) × Unit))) (v2 : (Bool × ((List Int) × Unit))) (v17 : Int) (v19 : Int) (r1 : Int → Int → (List Int) → Option ((Bool × ((List Int) × Unit)))) (r0 : Int → (List Int) → Option ((Bool × ((List Int) × Unit)))) (v24 : Int) (v25 : Int) (v26 : (List Int)) : Option ((Bool × ((List Int) × Unit))) :=
  (bif (decide ((v25 : Int) < (v2.2.1.length : Int))) then ((nth v2.2.1 v25).bind fun v27 => ((chk (IntKind.i64.wrap (v17 + v25)) v26.length).bind fun v28 => (v26[v28]?).bind fun v29 => ((chk (IntKind.i64.wrap (v17 + v25)) v26.length).bind fun v30 => ((r1 (Int.fdiv (IntKind.u64.wrap ((IntKind.u64.wrap ((IntKind.u64.wrap ((IntKind.u64.wrap v19) * (IntKind.u64.wrap v27))) + (IntKind.u64.wrap v29))) + v24)) (2 ^ (min (32 : Int).toNat (IntKind.bits .u64)))) (IntKind.i64.wrap (v25 + 1)) (v26.set v30 (IntKind.u32.wrap (IntKind.u64.wrap ((IntKind.u64.wrap ((IntKind.u64.wrap ((IntKind.u64.wrap v19) * (IntKind.u64.wrap v27))) + (IntKind.u64.wrap v29))) + v24))))))))) else ((chk (IntKind.i64.wrap (v17 + (v2.2.1.length : Int))) v26.length).bind fun v31 => ((r0 (IntKind.i64.wrap (v17 + 1)) (v26.set v31 (IntKind.u32.wrap v24))))))
def spec_Whole_Mul_l1 (N : Nat) (r0 : Int → (List Int) → Option ((Bool × ((List Int) × Unit)))) (v1 : (Bool × ((List Int) × Unit))) (v2 : (Bool × ((List Int) × Unit))) : Nat → Int → Int → Int → Int → (List Int) → Option ((Bool × ((List Int) × Unit)))
  | 0, _, _, _, _, _ => none
  | n + 1, v17, v19, v24, v25, v26 => spec_Whole_Mul_g1 N v1 v2 v17 v19 (spec_Whole_Mul_l1 N r0 v1 v2 n v17 v19) r0 v24 v25 v26
def spec_Whole_Mul_g0 (N : Nat) (v1 : (Bool × ((List Int) × Unit))) (v2 : (Bool × ((List Int) × Unit))) (c1 : Int → Int → Int → Int → (List Int) → Option ((Bool × ((List Int) × Unit)))) (r0 : Int → (List Int) → Option ((Bool × ((List Int) × Unit)))) (v17 : Int) (v18 : (List Int)) : Option ((Bool × ((List Int) × Unit))) :=
  (bif (decide ((v17 : Int) < (v1.2.1.length : Int))) then ((nth v1.2.1 v17).bind fun v19 => ((c1 v17 v19 0 0 v18))) else ((spec_trim N v18).bind fun v32 => (bif (decide (((v32.length : Int) : Int) > 0)) then (some ((!(v1.1 == v2.1)), v32, ())) else (some (false, v32, ())))))
def spec_Whole_Mul_l0 (N : Nat) : Nat → (Bool × ((List Int) × Unit)) → (Bool × ((List Int) × Unit)) → Int → (List Int) → Option ((Bool × ((List Int) × Unit)))
  | 0, _, _, _, _ => none
  | n + 1, v1, v2, v17, v18 => spec_Whole_Mul_g0 N v1 v2 (spec_Whole_Mul_l1 N (spec_Whole_Mul_l0 N n v1 v2) v1 v2 N) (spec_Whole_Mul_l0 N n v1 v2) v17 v18
def spec_Whole_Mul_g (N : Nat) (v1 : (Bool × ((List Int) × Unit))) (v2 : (Bool × ((List Int) × Unit))) (c0 : (Bool × ((List Int) × Unit)) → (Bool × ((List Int) × Unit)) → Int → (List Int) → Option ((Bool × ((List Int) × Unit)))) : Option ((Bool × ((List Int) × Unit))) :=
  ((mkn (IntKind.i64.wrap ((v1.2.1.length : Int) + (v2.2.1.length : Int))) (IntKind.i64.wrap ((v1.2.1.length : Int) + (v2.2.1.length : Int))) 4).bind fun v3 => ((c0 v1 v2 0 (List.replicate v3 (0 : Int)))))
def spec_Whole_Mul (N : Nat) (v1 : (Bool × ((List Int) × Unit))) (v2 : (Bool × ((List Int) × Unit))) : Option ((Bool × ((List Int) × Unit))) :=
  spec_Whole_Mul_g N v1 v2 (spec_Whole_Mul_l0 N N)
set_option maxRecDepth 100000
noncomputable def spec_Whole_Mul_e1 (N : Nat) (m0 : Nat) (v1 : (Bool × ((List Int) × Unit))) (v2 : (Bool × ((List Int) × Unit))) (n : Nat) (v17 : Int) (v19 : Int) (v24 : Int) (v25 : Int) (v26 : (List Int)) : Option (HR [(.pair .bool (.pair (.list (.int .u32)) .unit))]) :=
  loopN (advOf (spec_Whole_Mul_E N) (codeAt (bodyOf Tryd.f38) [1, 1, 0, 1, 0, 0, 1, 1, 0, 0, 1, 1, 0, 1, 0, 0])) (evC (spec_Whole_Mul_E N) (codeAt (bodyOf Tryd.f38) [1, 1, 0, 1, 0, 0, 1, 1, 0, 0, 1, 1, 0, 1, 0, 0])) n ⟨[(2, .ref 2 0), (3, .ref 3 0), (4, .ref 4 0), (5, .own (.int .u32) 19), (6, .pv (.int .i64) v17), (7, .pv (.int .u32) v19), (8, .pv (.int .u64) v24), (21, .pv (.list (.int .u32)) v1.2.1), (22, .pv (.int .i64) (v1.2.1.length : Int)), (23, .pv (.int .i64) v17), (29, .pv (.list (.int .u32)) v2.2.1), (30, .pv (.int .i64) (v2.2.1.length : Int)), (31, .pv (.int .i64) v25)], [(2, .box [.pv .bool v1.1, .pv (.list (.int .u32)) v1.2.1]), (3, .box [.pv .bool v2.1, .pv (.list (.int .u32)) v2.2.1]), (4, .box [.pv .bool false, .nils]), (19, .arr 78 (.int .u32) v26)], []⟩ (kBlock 2 (kSeq (advOf (spec_Whole_Mul_E N) (codeAt (bodyOf Tryd.f38) [1, 1, 0, 1, 0, 0, 1, 1, 0, 0, 1, 1, 1])) (evC (spec_Whole_Mul_E N) (codeAt (bodyOf Tryd.f38) [1, 1, 0, 1, 0, 0, 1, 1, 0, 0, 1, 1, 1])) (kBlock 1 (kSeq (advOf (spec_Whole_Mul_E N) (codeAt (bodyOf Tryd.f38) [1, 1, 0, 1, 0, 0, 1, 1, 1])) (evC (spec_Whole_Mul_E N) (codeAt (bodyOf Tryd.f38) [1, 1, 0, 1, 0, 0, 1, 1, 1])) (kSeq (advOf (spec_Whole_Mul_E N) (codeAt (bodyOf Tryd.f38) [1, 1, 0, 1, 0, 0])) (fun st K => loopN (advOf (spec_Whole_Mul_E N) (codeAt (bodyOf Tryd.f38) [1, 1, 0, 1, 0, 0])) (evC (spec_Whole_Mul_E N) (codeAt (bodyOf Tryd.f38) [1, 1, 0, 1, 0, 0])) m0 st K) (kBlock 0 (kSeq (advOf (spec_Whole_Mul_E N) (codeAt (bodyOf Tryd.f38) [1, 1, 1])) (evC (spec_Whole_Mul_E N) (codeAt (bodyOf Tryd.f38) [1, 1, 1])) (kEnd (spec_Whole_Mul_E N) [] Tryd.f38.results.toList [(.pair .bool (.pair (.list (.int .u32)) .unit))]))))))))
noncomputable def spec_Whole_Mul_e0 (N : Nat) (n : Nat) (v1 : (Bool × ((List Int) × Unit))) (v2 : (Bool × ((List Int) × Unit))) (v17 : Int) (v18 : (List Int)) : Option (HR [(.pair .bool (.pair (.list (.int .u32)) .unit))]) :=
  loopN (advOf (spec_Whole_Mul_E N) (codeAt (bodyOf Tryd.f38) [1, 1, 0, 1, 0, 0])) (evC (spec_Whole_Mul_E N) (codeAt (bodyOf Tryd.f38) [1, 1, 0, 1, 0, 0])) n ⟨[(2, .ref 2 0), (3, .ref 3 0), (4, .ref 4 0), (5, .own (.int .u32) 19), (21, .pv (.list (.int .u32)) v1.2.1), (22, .pv (.int .i64) (v1.2.1.length : Int)), (23, .pv (.int .i64) v17)], [(2, .box [.pv .bool v1.1, .pv (.list (.int .u32)) v1.2.1]), (3, .box [.pv .bool v2.1, .pv (.list (.int .u32)) v2.2.1]), (4, .box [.pv .bool false, .nils]), (19, .arr 78 (.int .u32) v18)], []⟩ (kBlock 0 (kSeq (advOf (spec_Whole_Mul_E N) (codeAt (bodyOf Tryd.f38) [1, 1, 1])) (evC (spec_Whole_Mul_E N) (codeAt (bodyOf Tryd.f38) [1, 1, 1])) (kEnd (spec_Whole_Mul_E N) [] Tryd.f38.results.toList [(.pair .bool (.pair (.list (.int .u32)) .unit))])))
theorem spec_Whole_Mul_t1 (N : Nat) (m0 : Nat) (v1 : (Bool × ((List Int) × Unit))) (v2 : (Bool × ((List Int) × Unit))) : ∀ (n : Nat) (v17 : Int) (v19 : Int) (v24 : Int) (v25 : Int) (v26 : (List Int)), spec_Whole_Mul_e1 N m0 v1 v2 n v17 v19 v24 v25 v26 = spec_Whole_Mul_l1 N (spec_Whole_Mul_e0 N m0 v1 v2) v1 v2 n v17 v19 v24 v25 v26
  | 0, _, _, _, _, _ => rfl
  | n + 1, v17, v19, v24, v25, v26 => by
    have h : spec_Whole_Mul_e1 N m0 v1 v2 n v17 v19 = spec_Whole_Mul_l1 N (spec_Whole_Mul_e0 N m0 v1 v2) v1 v2 n v17 v19 := by funext v24 v25 v26; exact spec_Whole_Mul_t1 N m0 v1 v2 n v17 v19 v24 v25 v26
    exact (show spec_Whole_Mul_e1 N m0 v1 v2 (n + 1) v17 v19 v24 v25 v26 = spec_Whole_Mul_g1 N v1 v2 v17 v19 (spec_Whole_Mul_e1 N m0 v1 v2 n v17 v19) (spec_Whole_Mul_e0 N m0 v1 v2) v24 v25 v26 from by kernel_rfl).trans (by rw [h]; rfl)
theorem spec_Whole_Mul_t0 (N : Nat) : ∀ (n : Nat) (v1 : (Bool × ((List Int) × Unit))) (v2 : (Bool × ((List Int) × Unit))) (v17 : Int) (v18 : (List Int)), spec_Whole_Mul_e0 N n v1 v2 v17 v18 = spec_Whole_Mul_l0 N n v1 v2 v17 v18
  | 0, _, _, _, _ => rfl
  | n + 1, v1, v2, v17, v18 => by
    have h1 : (spec_Whole_Mul_e1 N n v1 v2 N) = (spec_Whole_Mul_l1 N (spec_Whole_Mul_e0 N n v1 v2) v1 v2 N) := by funext v17 v19 v24 v25 v26; exact spec_Whole_Mul_t1 N n v1 v2 N v17 v19 v24 v25 v26
    have h : spec_Whole_Mul_e0 N n v1 v2 = spec_Whole_Mul_l0 N n v1 v2 := by funext v17 v18; exact spec_Whole_Mul_t0 N n v1 v2 v17 v18
    exact (show spec_Whole_Mul_e0 N (n + 1) v1 v2 v17 v18 = spec_Whole_Mul_g0 N v1 v2 (spec_Whole_Mul_e1 N n v1 v2 N) (spec_Whole_Mul_e0 N n v1 v2) v17 v18 from by kernel_rfl).trans (by rw [h1, h]; rfl)
theorem spec_Whole_Mul_t (N : Nat) (v1 : (Bool × ((List Int) × Unit))) (v2 : (Bool × ((List Int) × Unit))) : evF (spec_Whole_Mul_E N) [] Tryd.f38 [.k (.pair .bool (.pair (.list (.int .u32)) .unit)), .k (.pair .bool (.pair (.list (.int .u32)) .unit))] [(.pair .bool (.pair (.list (.int .u32)) .unit))] (v1, v2, ()) = spec_Whole_Mul N v1 v2 := by
  have h0 : (spec_Whole_Mul_e0 N N) = (spec_Whole_Mul_l0 N N) := by funext v1 v2 v17 v18; exact spec_Whole_Mul_t0 N N v1 v2 v17 v18
  exact (show evF (spec_Whole_Mul_E N) [] Tryd.f38 [.k (.pair .bool (.pair (.list (.int .u32)) .unit)), .k (.pair .bool (.pair (.list (.int .u32)) .unit))] [(.pair .bool (.pair (.list (.int .u32)) .unit))] (v1, v2, ()) = spec_Whole_Mul_g N v1 v2 (spec_Whole_Mul_e0 N N) from by kernel_rfl).trans (by rw [h0]; rfl)
noncomputable def spec_Whole_Mul_con (N : Nat) : Con := ⟨38, [.k (.pair .bool (.pair (.list (.int .u32)) .unit)), .k (.pair .bool (.pair (.list (.int .u32)) .unit))], [(.pair .bool (.pair (.list (.int .u32)) .unit))], fun x => spec_Whole_Mul N x.1 x.2.1⟩
theorem spec_Whole_Mul_s (N : Nat) : (spec_Whole_Mul_con N).Sound Tryd.prog (GL N) :=
  Con.sound_of (c := spec_Whole_Mul_con N) (E := (spec_Whole_Mul_E N)) (idle := []) Tryd.func38 (by kernel_rfl) (by kernel_rfl) ⟨(allCons (spec_trim_s N) allNil), allNil, rfl⟩ allNil (fun x y h => (spec_Whole_Mul_t N x.1 x.2.1).trans h)
/-- (pub-orthodrome/spec.Dyadic).Mul -/
noncomputable def spec_Dyadic_Mul_E (N : Nat) : Env := ⟨Tryd.prog, N, [spec_Whole_Mul_con N], [(0, ⟨[], [], [0, 1], [], none⟩), (1, ⟨[], [], [2, 3, 4], [2, 3, 4], none⟩)], kdL [], [], [], (GL N)⟩
def spec_Dyadic_Mul_g (N : Nat) (v1 : ((Bool × ((List Int) × Unit)) × (Int × Unit))) (v2 : ((Bool × ((List Int) × Unit)) × (Int × Unit))) : Option (((Bool × ((List Int) × Unit)) × (Int × Unit))) :=
  ((spec_Whole_Mul N (v1.1.1, v1.1.2.1, ()) (v2.1.1, v2.1.2.1, ())).bind fun v3 => (some ((v3.1, v3.2.1, ()), (IntKind.i64.wrap (v1.2.1 + v2.2.1)), ())))
def spec_Dyadic_Mul (N : Nat) (v1 : ((Bool × ((List Int) × Unit)) × (Int × Unit))) (v2 : ((Bool × ((List Int) × Unit)) × (Int × Unit))) : Option (((Bool × ((List Int) × Unit)) × (Int × Unit))) :=
  spec_Dyadic_Mul_g N v1 v2
set_option maxRecDepth 100000
theorem spec_Dyadic_Mul_t (N : Nat) (v1 : ((Bool × ((List Int) × Unit)) × (Int × Unit))) (v2 : ((Bool × ((List Int) × Unit)) × (Int × Unit))) : evF (spec_Dyadic_Mul_E N) [] Tryd.f27 [.k (.pair (.pair .bool (.pair (.list (.int .u32)) .unit)) (.pair (.int .i64) .unit)), .k (.pair (.pair .bool (.pair (.list (.int .u32)) .unit)) (.pair (.int .i64) .unit))] [(.pair (.pair .bool (.pair (.list (.int .u32)) .unit)) (.pair (.int .i64) .unit))] (v1, v2, ()) = spec_Dyadic_Mul N v1 v2 := by
  exact (show evF (spec_Dyadic_Mul_E N) [] Tryd.f27 [.k (.pair (.pair .bool (.pair (.list (.int .u32)) .unit)) (.pair (.int .i64) .unit)), .k (.pair (.pair .bool (.pair (.list (.int .u32)) .unit)) (.pair (.int .i64) .unit))] [(.pair (.pair .bool (.pair (.list (.int .u32)) .unit)) (.pair (.int .i64) .unit))] (v1, v2, ()) = spec_Dyadic_Mul_g N v1 v2 from by kernel_rfl).trans (by rfl)
noncomputable def spec_Dyadic_Mul_con (N : Nat) : Con := ⟨27, [.k (.pair (.pair .bool (.pair (.list (.int .u32)) .unit)) (.pair (.int .i64) .unit)), .k (.pair (.pair .bool (.pair (.list (.int .u32)) .unit)) (.pair (.int .i64) .unit))], [(.pair (.pair .bool (.pair (.list (.int .u32)) .unit)) (.pair (.int .i64) .unit))], fun x => spec_Dyadic_Mul N x.1 x.2.1⟩
theorem spec_Dyadic_Mul_s (N : Nat) : (spec_Dyadic_Mul_con N).Sound Tryd.prog (GL N) :=
  Con.sound_of (c := spec_Dyadic_Mul_con N) (E := (spec_Dyadic_Mul_E N)) (idle := []) Tryd.func27 (by kernel_rfl) (by kernel_rfl) ⟨(allCons (spec_Whole_Mul_s N) allNil), allNil, rfl⟩ allNil (fun x y h => (spec_Dyadic_Mul_t N x.1 x.2.1).trans h)
/-- pub-orthodrome/spec.Cross -/
noncomputable def spec_Cross_E (N : Nat) : Env := ⟨Tryd.prog, N, [spec_Dyadic_Sub_con N, spec_Dyadic_Mul_con N], [(0, ⟨[], [], [0, 1, 2], [], none⟩), (1, ⟨[], [], [3, 4, 5, 6], [3, 4, 5, 6], none⟩)], kdL [], [], [], (GL N)⟩
def spec_Cross_g (N : Nat) (v1 : (((Bool × ((List Int) × Unit)) × (Int × Unit)) × (((Bool × ((List Int) × Unit)) × (Int × Unit)) × Unit))) (v2 : (((Bool × ((List Int) × Unit)) × (Int × Unit)) × (((Bool × ((List Int) × Unit)) × (Int × Unit)) × Unit))) (v3 : (((Bool × ((List Int) × Unit)) × (Int × Unit)) × (((Bool × ((List Int) × Unit)) × (Int × Unit)) × Unit))) : Option (((Bool × ((List Int) × Unit)) × (Int × Unit))) :=
  ((spec_Dyadic_Sub N ((v2.1.1.1, v2.1.1.2.1, ()), v2.1.2.1, ()) ((v1.1.1.1, v1.1.1.2.1, ()), v1.1.2.1, ())).bind fun v4 => (spec_Dyadic_Sub N ((v3.2.1.1.1, v3.2.1.1.2.1, ()), v3.2.1.2.1, ()) ((v1.2.1.1.1, v1.2.1.1.2.1, ()), v1.2.1.2.1, ())).bind fun v5 => (spec_Dyadic_Mul N v4 v5).bind fun v6 => (spec_Dyadic_Sub N ((v2.2.1.1.1, v2.2.1.1.2.1, ()), v2.2.1.2.1, ()) ((v1.2.1.1.1, v1.2.1.1.2.1, ()), v1.2.1.2.1, ())).bind fun v7 => (spec_Dyadic_Sub N ((v3.1.1.1, v3.1.1.2.1, ()), v3.1.2.1, ()) ((v1.1.1.1, v1.1.1.2.1, ()), v1.1.2.1, ())).bind fun v8 => (spec_Dyadic_Mul N v7 v8).bind fun v9 => (spec_Dyadic_Sub N v6 v9).bind fun v10 => (some ((v10.1.1, v10.1.2.1, ()), v10.2.1, ())))
def spec_Cross (N : Nat) (v1 : (((Bool × ((List Int) × Unit)) × (Int × Unit)) × (((Bool × ((List Int) × Unit)) × (Int × Unit)) × Unit))) (v2 : (((Bool × ((List Int) × Unit)) × (Int × Unit)) × (((Bool × ((List Int) × Unit)) × (Int × Unit)) × Unit))) (v3 : (((Bool × ((List Int) × Unit)) × (Int × Unit)) × (((Bool × ((List Int) × Unit)) × (Int × Unit)) × Unit))) : Option (((Bool × ((List Int) × Unit)) × (Int × Unit))) :=
  spec_Cross_g N v1 v2 v3
set_option maxRecDepth 100000
theorem spec_Cross_t (N : Nat) (v1 : (((Bool × ((List Int) × Unit)) × (Int × Unit)) × (((Bool × ((List Int) × Unit)) × (Int × Unit)) × Unit))) (v2 : (((Bool × ((List Int) × Unit)) × (Int × Unit)) × (((Bool × ((List Int) × Unit)) × (Int × Unit)) × Unit))) (v3 : (((Bool × ((List Int) × Unit)) × (Int × Unit)) × (((Bool × ((List Int) × Unit)) × (Int × Unit)) × Unit))) : evF (spec_Cross_E N) [] Tryd.f16 [.k (.pair (.pair (.pair .bool (.pair (.list (.int .u32)) .unit)) (.pair (.int .i64) .unit)) (.pair (.pair (.pair .bool (.pair (.list (.int .u32)) .unit)) (.pair (.int .i64) .unit)) .unit)), .k (.pair (.pair (.pair .bool (.pair (.list (.int .u32)) .unit)) (.pair (.int .i64) .unit)) (.pair (.pair (.pair .bool (.pair (.list (.int .u32)) .unit)) (.pair (.int .i64) .unit)) .unit)), .k (.pair (.pair (.pair .bool (.pair (.list (.int .u32)) .unit)) (.pair (.int .i64) .unit)) (.pair (.pair (.pair .bool (.pair (.list (.int .u32)) .unit)) (.pair (.int .i64) .unit)) .unit))] [(.pair (.pair .bool (.pair (.list (.int .u32)) .unit)) (.pair (.int .i64) .unit))] (v1, v2, v3, ()) = spec_Cross N v1 v2 v3 := by
  exact (show evF (spec_Cross_E N) [] Tryd.f16 [.k (.pair (.pair (.pair .bool (.pair (.list (.int .u32)) .unit)) (.pair (.int .i64) .unit)) (.pair (.pair (.pair .bool (.pair (.list (.int .u32)) .unit)) (.pair (.int .i64) .unit)) .unit)), .k (.pair (.pair (.pair .bool (.pair (.list (.int .u32)) .unit)) (.pair (.int .i64) .unit)) (.pair (.pair (.pair .bool (.pair (.list (.int .u32)) .unit)) (.pair (.int .i64) .unit)) .unit)), .k (.pair (.pair (.pair .bool (.pair (.list (.int .u32)) .unit)) (.pair (.int .i64) .unit)) (.pair (.pair (.pair .bool (.pair (.list (.int .u32)) .unit)) (.pair (.int .i64) .unit)) .unit))] [(.pair (.pair .bool (.pair (.list (.int .u32)) .unit)) (.pair (.int .i64) .unit))] (v1, v2, v3, ()) = spec_Cross_g N v1 v2 v3 from by kernel_rfl).trans (by rfl)
noncomputable def spec_Cross_con (N : Nat) : Con := ⟨16, [.k (.pair (.pair (.pair .bool (.pair (.list (.int .u32)) .unit)) (.pair (.int .i64) .unit)) (.pair (.pair (.pair .bool (.pair (.list (.int .u32)) .unit)) (.pair (.int .i64) .unit)) .unit)), .k (.pair (.pair (.pair .bool (.pair (.list (.int .u32)) .unit)) (.pair (.int .i64) .unit)) (.pair (.pair (.pair .bool (.pair (.list (.int .u32)) .unit)) (.pair (.int .i64) .unit)) .unit)), .k (.pair (.pair (.pair .bool (.pair (.list (.int .u32)) .unit)) (.pair (.int .i64) .unit)) (.pair (.pair (.pair .bool (.pair (.list (.int .u32)) .unit)) (.pair (.int .i64) .unit)) .unit))], [(.pair (.pair .bool (.pair (.list (.int .u32)) .unit)) (.pair (.int .i64) .unit))], fun x => spec_Cross N x.1 x.2.1 x.2.2.1⟩
theorem spec_Cross_s (N : Nat) : (spec_Cross_con N).Sound Tryd.prog (GL N) :=
  Con.sound_of (c := spec_Cross_con N) (E := (spec_Cross_E N)) (idle := []) Tryd.func16 (by kernel_rfl) (by kernel_rfl) ⟨(allCons (spec_Dyadic_Sub_s N) (allCons (spec_Dyadic_Mul_s N) allNil)), allNil, rfl⟩ allNil (fun x y h => (spec_Cross_t N x.1 x.2.1 x.2.2.1).trans h)
/-- pub-orthodrome/spec.Orient -/
noncomputable def spec_Orient_E (N : Nat) : Env := ⟨Tryd.prog, N, [spec_Cross_con N, spec_Dyadic_Sign_con N], [(0, ⟨[], [], [0, 1, 2], [], none⟩), (1, ⟨[], [], [3, 4, 5], [3, 4, 5], none⟩)], kdL [], [], [], (GL N)⟩
def spec_Orient_g (N : Nat) (v1 : (((Bool × ((List Int) × Unit)) × (Int × Unit)) × (((Bool × ((List Int) × Unit)) × (Int × Unit)) × Unit))) (v2 : (((Bool × ((List Int) × Unit)) × (Int × Unit)) × (((Bool × ((List Int) × Unit)) × (Int × Unit)) × Unit))) (v3 : (((Bool × ((List Int) × Unit)) × (Int × Unit)) × (((Bool × ((List Int) × Unit)) × (Int × Unit)) × Unit))) : Option (Int) :=
  ((spec_Cross N (((v1.1.1.1, v1.1.1.2.1, ()), v1.1.2.1, ()), ((v1.2.1.1.1, v1.2.1.1.2.1, ()), v1.2.1.2.1, ()), ()) (((v2.1.1.1, v2.1.1.2.1, ()), v2.1.2.1, ()), ((v2.2.1.1.1, v2.2.1.1.2.1, ()), v2.2.1.2.1, ()), ()) (((v3.1.1.1, v3.1.1.2.1, ()), v3.1.2.1, ()), ((v3.2.1.1.1, v3.2.1.1.2.1, ()), v3.2.1.2.1, ()), ())).bind fun v4 => (spec_Dyadic_Sign N v4).bind fun v5 => (some v5))
def spec_Orient (N : Nat) (v1 : (((Bool × ((List Int) × Unit)) × (Int × Unit)) × (((Bool × ((List Int) × Unit)) × (Int × Unit)) × Unit))) (v2 : (((Bool × ((List Int) × Unit)) × (Int × Unit)) × (((Bool × ((List Int) × Unit)) × (Int × Unit)) × Unit))) (v3 : (((Bool × ((List Int) × Unit)) × (Int × Unit)) × (((Bool × ((List Int) × Unit)) × (Int × Unit)) × Unit))) : Option (Int) :=
  spec_Orient_g N v1 v2 v3
set_option maxRecDepth 100000
theorem spec_Orient_t (N : Nat) (v1 : (((Bool × ((List Int) × Unit)) × (Int × Unit)) × (((Bool × ((List Int) × Unit)) × (Int × Unit)) × Unit))) (v2 : (((Bool × ((List Int) × Unit)) × (Int × Unit)) × (((Bool × ((List Int) × Unit)) × (Int × Unit)) × Unit))) (v3 : (((Bool × ((List Int) × Unit)) × (Int × Unit)) × (((Bool × ((List Int) × Unit)) × (Int × Unit)) × Unit))) : evF (spec_Orient_E N) [] Tryd.f7 [.k (.pair (.pair (.pair .bool (.pair (.list (.int .u32)) .unit)) (.pair (.int .i64) .unit)) (.pair (.pair (.pair .bool (.pair (.list (.int .u32)) .unit)) (.pair (.int .i64) .unit)) .unit)), .k (.pair (.pair (.pair .bool (.pair (.list (.int .u32)) .unit)) (.pair (.int .i64) .unit)) (.pair (.pair (.pair .bool (.pair (.list (.int .u32)) .unit)) (.pair (.int .i64) .unit)) .unit)), .k (.pair (.pair (.pair .bool (.pair (.list (.int .u32)) .unit)) (.pair (.int .i64) .unit)) (.pair (.pair (.pair .bool (.pair (.list (.int .u32)) .unit)) (.pair (.int .i64) .unit)) .unit))] [(.int .i64)] (v1, v2, v3, ()) = spec_Orient N v1 v2 v3 := by
  exact (show evF (spec_Orient_E N) [] Tryd.f7 [.k (.pair (.pair (.pair .bool (.pair (.list (.int .u32)) .unit)) (.pair (.int .i64) .unit)) (.pair (.pair (.pair .bool (.pair (.list (.int .u32)) .unit)) (.pair (.int .i64) .unit)) .unit)), .k (.pair (.pair (.pair .bool (.pair (.list (.int .u32)) .unit)) (.pair (.int .i64) .unit)) (.pair (.pair (.pair .bool (.pair (.list (.int .u32)) .unit)) (.pair (.int .i64) .unit)) .unit)), .k (.pair (.pair (.pair .bool (.pair (.list (.int .u32)) .unit)) (.pair (.int .i64) .unit)) (.pair (.pair (.pair .bool (.pair (.list (.int .u32)) .unit)) (.pair (.int .i64) .unit)) .unit))] [(.int .i64)] (v1, v2, v3, ()) = spec_Orient_g N v1 v2 v3 from by kernel_rfl).trans (by rfl)
noncomputable def spec_Orient_con (N : Nat) : Con := ⟨7, [.k (.pair (.pair (.pair .bool (.pair (.list (.int .u32)) .unit)) (.pair (.int .i64) .unit)) (.pair (.pair (.pair .bool (.pair (.list (.int .u32)) .unit)) (.pair (.int .i64) .unit)) .unit)), .k (.pair (.pair (.pair .bool (.pair (.list (.int .u32)) .unit)) (.pair (.int .i64) .unit)) (.pair (.pair (.pair .bool (.pair (.list (.int .u32)) .unit)) (.pair (.int .i64) .unit)) .unit)), .k (.pair (.pair (.pair .bool (.pair (.list (.int .u32)) .unit)) (.pair (.int .i64) .unit)) (.pair (.pair (.pair .bool (.pair (.list (.int .u32)) .unit)) (.pair (.int .i64) .unit)) .unit))], [(.int .i64)], fun x => spec_Orient N x.1 x.2.1 x.2.2.1⟩
theorem spec_Orient_s (N : Nat) : (spec_Orient_con N).Sound Tryd.prog (GL N) :=
  Con.sound_of (c := spec_Orient_con N) (E := (spec_Orient_E N)) (idle := []) Tryd.func7 (by kernel_rfl) (by kernel_rfl) ⟨(allCons (spec_Cross_s N) (allCons (spec_Dyadic_Sign_s N) allNil)), allNil, rfl⟩ allNil (fun x y h => (spec_Orient_t N x.1 x.2.1 x.2.2.1).trans h)
/-- pub-orthodrome/laws.FnOrientationTurned -/
noncomputable def laws_FnOrientationTurned_E (N : Nat) : Env := ⟨Tryd.prog, N, [laws_planeTo_con N, impl_Orientation_con N, laws_exactly_con N, spec_Orient_con N], [(0, ⟨[], [], [0, 1, 2], [], none⟩), (1, ⟨[], [], [3, 4, 5], [3, 4, 5], none⟩), (2, ⟨[], [], [3, 4, 5, 13], [3, 4, 5], none⟩), (3, ⟨[], [], [3, 4, 5], [3, 4, 5], none⟩), (4, ⟨[], [], [3, 4, 5, 7], [3, 4, 5], none⟩)], kdL [(24, (.pair .float (.pair .float .unit)))], [], [], (GL N)⟩
def laws_FnOrientationTurned_g (N : Nat) (v1 : (Nat × (Nat × Unit))) (v2 : (Nat × (Nat × Unit))) (v3 : (Nat × (Nat × Unit))) : Option (Bool) :=
  ((laws_planeTo N 4719772409484279808 ([(v1.1, v1.2.1, ()), (v2.1, v2.2.1, ()), (v3.1, v3.2.1, ())] : List (Nat × (Nat × Unit)))).bind fun v4 => (bif (!v4) then (some true) else ((impl_Orientation N (v1.1, v1.2.1, ()) (v2.1, v2.2.1, ()) (v3.1, v3.2.1, ())).bind fun v5 => ((impl_Orientation N (v2.1, v2.2.1, ()) (v3.1, v3.2.1, ()) (v1.1, v1.2.1, ())).bind fun v6 => bif (v6 == v5) then ((impl_Orientation N (v2.1, v2.2.1, ()) (v1.1, v1.2.1, ()) (v3.1, v3.2.1, ())).bind fun v7 => bif (v7 == (IntKind.i64.wrap (0 - v5))) then ((impl_Orientation N (v1.1, v1.2.1, ()) (v3.1, v3.2.1, ()) (v2.1, v2.2.1, ())).bind fun v8 => bif (v8 == (IntKind.i64.wrap (0 - v5))) then ((laws_exactly N (v1.1, v1.2.1, ())).bind fun v9 => (laws_exactly N (v2.1, v2.2.1, ())).bind fun v10 => (laws_exactly N (v3.1, v3.2.1, ())).bind fun v11 => (spec_Orient N v9 v10 v11).bind fun v12 => (some ((v5 == 0) == (v12 == 0)))) else (some false)) else (some false)) else (some false)))))
def laws_FnOrientationTurned (N : Nat) (v1 : (Nat × (Nat × Unit))) (v2 : (Nat × (Nat × Unit))) (v3 : (Nat × (Nat × Unit))) : Option (Bool) :=
  laws_FnOrientationTurned_g N v1 v2 v3
set_option maxRecDepth 100000
theorem laws_FnOrientationTurned_t (N : Nat) (v1 : (Nat × (Nat × Unit))) (v2 : (Nat × (Nat × Unit))) (v3 : (Nat × (Nat × Unit))) : evF (laws_FnOrientationTurned_E N) [] Tryd.f3 [.k (.pair .float (.pair .float .unit)), .k (.pair .float (.pair .float .unit)), .k (.pair .float (.pair .float .unit))] [.bool] (v1, v2, v3, ()) = laws_FnOrientationTurned N v1 v2 v3 := by
  exact (show evF (laws_FnOrientationTurned_E N) [] Tryd.f3 [.k (.pair .float (.pair .float .unit)), .k (.pair .float (.pair .float .unit)), .k (.pair .float (.pair .float .unit))] [.bool] (v1, v2, v3, ()) = laws_FnOrientationTurned_g N v1 v2 v3 from by kernel_rfl).trans (by rfl)
noncomputable def laws_FnOrientationTurned_con (N : Nat) : Con := ⟨3, [.k (.pair .float (.pair .float .unit)), .k (.pair .float (.pair .float .unit)), .k (.pair .float (.pair .float .unit))], [.bool], fun x => laws_FnOrientationTurned N x.1 x.2.1 x.2.2.1⟩
theorem laws_FnOrientationTurned_s (N : Nat) : (laws_FnOrientationTurned_con N).Sound Tryd.prog (GL N) :=
  Con.sound_of (c := laws_FnOrientationTurned_con N) (E := (laws_FnOrientationTurned_E N)) (idle := []) Tryd.func3 (by kernel_rfl) (by kernel_rfl) ⟨(allCons (laws_planeTo_s N) (allCons (impl_Orientation_s N) (allCons (laws_exactly_s N) (allCons (spec_Orient_s N) allNil)))), allNil, rfl⟩ allNil (fun x y h => (laws_FnOrientationTurned_t N x.1 x.2.1 x.2.2.1).trans h)
end Go.Proofs.YtjghcbmalcopoaaDoor.OT
