import Derived.Test.YtfhplocmlmmnoaaProg
import Derived.Test.YtfhplocmlmmnoaaAv16
import Derived.Test.YtfhplocmlmmnoaaAv19
import Derived.Test.YtfhplocmlmmnoaaAv20
import Derived.Test.YtfhplocmlmmnoaaAv21
import Derived.Test.YtfhplocmlmmnoaaAv25
import Derived.KernelRfl
set_option linter.unusedVariables false
namespace Go.Proofs.Ytfhplocmlmmnoaa.G3
open Go Go.Av
/-- pub-orthodrome/laws.zzFits1 -/
noncomputable def laws_zzFits1_E (N : Nat) : Env := ⟨Try.prog, N, [], [(0, ⟨[], [], [0], [], none⟩), (1, ⟨[], [], [1], [1], none⟩), (2, ⟨[], [], [1, 6], [1], none⟩), (3, ⟨[], [], [1], [1], none⟩), (4, ⟨[], [], [10], [], none⟩), (5, ⟨[], [], [], [], none⟩)], kdL [], []⟩
def laws_zzFits1_g (N : Nat) (v1 : (Int × ((List Nat) × ((List Nat) × Unit)))) : Option (Bool) :=
  (bif (decide (((v1.2.1.length : Int) : Int) > 2147483647)) then (some false) else (bif (decide (((v1.2.2.1.length : Int) : Int) > 2147483647)) then (some false) else (some true)))
def laws_zzFits1 (N : Nat) (v1 : (Int × ((List Nat) × ((List Nat) × Unit)))) : Option (Bool) :=
  laws_zzFits1_g N v1
set_option maxRecDepth 100000
theorem laws_zzFits1_t (N : Nat) (v1 : (Int × ((List Nat) × ((List Nat) × Unit)))) : evF (laws_zzFits1_E N) [] Try.f13 [.k (.pair (.int .i64) (.pair (.list .float) (.pair (.list .float) .unit)))] [.bool] (v1, ()) = laws_zzFits1 N v1 := by
  exact (show evF (laws_zzFits1_E N) [] Try.f13 [.k (.pair (.int .i64) (.pair (.list .float) (.pair (.list .float) .unit)))] [.bool] (v1, ()) = laws_zzFits1_g N v1 from by kernel_rfl).trans (by rfl)
noncomputable def laws_zzFits1_con (N : Nat) : Con := ⟨13, [.k (.pair (.int .i64) (.pair (.list .float) (.pair (.list .float) .unit)))], [.bool], fun x => laws_zzFits1 N x.1⟩
theorem laws_zzFits1_s (N : Nat) : (laws_zzFits1_con N).Sound Try.prog :=
  Con.sound_of (c := laws_zzFits1_con N) (E := (laws_zzFits1_E N)) (idle := []) Try.func13 (by kernel_rfl) (by kernel_rfl) ⟨allNil, allNil⟩ allNil (fun x y h => (laws_zzFits1_t N x.1).trans h)
/-- pub-orthodrome/spec.Stride -/
noncomputable def spec_Stride_E (N : Nat) : Env := ⟨Try.prog, N, [], [(0, ⟨[], [], [0], [], none⟩), (1, ⟨[], [], [0], [], none⟩), (2, ⟨[], [], [0, 3], [], none⟩), (4, ⟨[], [], [0, 6], [], none⟩), (6, ⟨[], [], [0, 9], [], none⟩), (7, ⟨[], [], [0], [], none⟩)], kdL [], []⟩
def spec_Stride_g (N : Nat) (v1 : Int) : Option (Int) :=
  (bif (decide ((v1 : Int) < 1)) then (some 0) else (bif (v1 == 1) then (some 2) else (bif (v1 == 2) then (some 3) else (bif (v1 == 3) then (some 3) else (some v1)))))
def spec_Stride (N : Nat) (v1 : Int) : Option (Int) :=
  spec_Stride_g N v1
set_option maxRecDepth 100000
theorem spec_Stride_t (N : Nat) (v1 : Int) : evF (spec_Stride_E N) [] Try.f34 [.k (.int .i64)] [(.int .i64)] (v1, ()) = spec_Stride N v1 := by
  exact (show evF (spec_Stride_E N) [] Try.f34 [.k (.int .i64)] [(.int .i64)] (v1, ()) = spec_Stride_g N v1 from by kernel_rfl).trans (by rfl)
noncomputable def spec_Stride_con (N : Nat) : Con := ⟨34, [.k (.int .i64)], [(.int .i64)], fun x => spec_Stride N x.1⟩
theorem spec_Stride_s (N : Nat) : (spec_Stride_con N).Sound Try.prog :=
  Con.sound_of (c := spec_Stride_con N) (E := (spec_Stride_E N)) (idle := []) Try.func34 (by kernel_rfl) (by kernel_rfl) ⟨allNil, allNil⟩ allNil (fun x y h => (spec_Stride_t N x.1).trans h)
/-- pub-orthodrome/laws.gNumber -/
noncomputable def laws_gNumber_E (N : Nat) : Env := ⟨Try.prog, N, [], [(0, ⟨[], [], [0], [], none⟩), (1, ⟨[], [], [0], [], none⟩)], kdL [], []⟩
def laws_gNumber_g (N : Nat) (v1 : Nat) : Option (Bool) :=
  (some (feq v1 v1))
def laws_gNumber (N : Nat) (v1 : Nat) : Option (Bool) :=
  laws_gNumber_g N v1
set_option maxRecDepth 100000
theorem laws_gNumber_t (N : Nat) (v1 : Nat) : evF (laws_gNumber_E N) [] Try.f17 [.k .float] [.bool] (v1, ()) = laws_gNumber N v1 := by
  exact (show evF (laws_gNumber_E N) [] Try.f17 [.k .float] [.bool] (v1, ()) = laws_gNumber_g N v1 from by kernel_rfl).trans (by rfl)
noncomputable def laws_gNumber_con (N : Nat) : Con := ⟨17, [.k .float], [.bool], fun x => laws_gNumber N x.1⟩
theorem laws_gNumber_s (N : Nat) : (laws_gNumber_con N).Sound Try.prog :=
  Con.sound_of (c := laws_gNumber_con N) (E := (laws_gNumber_E N)) (idle := []) Try.func17 (by kernel_rfl) (by kernel_rfl) ⟨allNil, allNil⟩ allNil (fun x y h => (laws_gNumber_t N x.1).trans h)
/-- pub-orthodrome/laws.bBox -/
noncomputable def laws_bBox_E (N : Nat) : Env := ⟨Try.prog, N, [spec_Stride_con N, laws_gNumber_con N], [(0, ⟨[], [], [0], [], none⟩), (1, ⟨[], [], [0], [], none⟩), (2, ⟨[], [], [6, 7, 8], [], none⟩), (3, ⟨[], [], [6, 7, 8], [], none⟩), (4, ⟨[], [], [4, 6, 7, 8], [4], none⟩), (5, ⟨[], [], [4, 6, 7, 8, 37], [4], some N⟩), (6, ⟨[], [], [4, 6, 7, 8], [4], none⟩), (7, ⟨[], [], [4, 6, 7, 8, 40, 41], [4], none⟩), (8, ⟨[], [], [4, 6, 7, 8, 40, 41], [4], none⟩), (9, ⟨[], [], [4, 5, 6, 7, 8, 40, 41], [4], none⟩), (10, ⟨[], [], [4, 6, 7, 8, 40, 41, 59], [4], none⟩), (11, ⟨[], [], [4, 6, 7, 8, 40, 41], [4], none⟩), (12, ⟨[], [], [6, 7, 8], [], none⟩), (13, ⟨[], [], [], [], none⟩)], kdL [], []⟩
def laws_bBox_g1 (N : Nat) (v1 : (List (Int × ((List Nat) × ((List Nat) × Unit))))) (v13 : Int) (v14 : (Int × ((List Nat) × ((List Nat) × Unit)))) (r0 : Int → Option (Bool)) : Option (Bool) :=
  (some false)
def laws_bBox_j1 (N : Nat) (r0 : Int → Option (Bool)) (v1 : (List (Int × ((List Nat) × ((List Nat) × Unit))))) (v13 : Int) (v14 : (Int × ((List Nat) × ((List Nat) × Unit)))) : Option (Bool) :=
  gate N (laws_bBox_g1 N v1 v13 v14 r0)
def laws_bBox_g2 (N : Nat) (v1 : (List (Int × ((List Nat) × ((List Nat) × Unit))))) (v13 : Int) (v14 : (Int × ((List Nat) × ((List Nat) × Unit)))) (r2 : Int → Option (Bool)) (r0 : Int → Option (Bool)) (v20 : Int) : Option (Bool) :=
  (bif (decide ((v20 : Int) < (v14.2.1.length : Int))) then ((nth v14.2.1 v20).bind fun v21 => (laws_gNumber N v21).bind fun v22 => bif (!v22) then (some false) else ((nth v14.2.2.1 v20).bind fun v23 => (laws_gNumber N v23).bind fun v24 => (bif (!v24) then (some false) else ((r2 (IntKind.i64.wrap (v20 + 1))))))) else ((r0 (IntKind.i64.wrap (v13 + 1)))))
def laws_bBox_l2 (N : Nat) (r0 : Int → Option (Bool)) (v1 : (List (Int × ((List Nat) × ((List Nat) × Unit))))) : Nat → Int → (Int × ((List Nat) × ((List Nat) × Unit))) → Int → Option (Bool)
  | 0, _, _, _ => none
  | n + 1, v13, v14, v20 => laws_bBox_g2 N v1 v13 v14 (laws_bBox_l2 N r0 v1 n v13 v14) r0 v20
def laws_bBox_g0 (N : Nat) (v1 : (List (Int × ((List Nat) × ((List Nat) × Unit))))) (c1 : Int → (Int × ((List Nat) × ((List Nat) × Unit))) → Option (Bool)) (c2 : Int → (Int × ((List Nat) × ((List Nat) × Unit))) → Int → Option (Bool)) (r0 : Int → Option (Bool)) (v13 : Int) : Option (Bool) :=
  (bif (decide ((v13 : Int) < (v1.length : Int))) then ((nth v1 v13).bind fun v14 => (bif (decide ((v14.1 : Int) < 0)) then (c1 v13 v14) else (bif (decide ((v14.1 : Int) > 9)) then (c1 v13 v14) else ((spec_Stride N v14.1).bind fun v15 => bif ((v14.2.1.length : Int) != v15) then (c1 v13 v14) else (gate N (bif ((v14.2.2.1.length : Int) != (v14.2.1.length : Int)) then (some false) else ((c2 v13 v14 0)))))))) else (some true))
def laws_bBox_l0 (N : Nat) : Nat → (List (Int × ((List Nat) × ((List Nat) × Unit)))) → Int → Option (Bool)
  | 0, _, _ => none
  | n + 1, v1, v13 => laws_bBox_g0 N v1 (laws_bBox_j1 N (laws_bBox_l0 N n v1) v1) (laws_bBox_l2 N (laws_bBox_l0 N n v1) v1 N) (laws_bBox_l0 N n v1) v13
def laws_bBox_g (N : Nat) (v1 : (List (Int × ((List Nat) × ((List Nat) × Unit))))) (c0 : (List (Int × ((List Nat) × ((List Nat) × Unit)))) → Int → Option (Bool)) : Option (Bool) :=
  ((c0 v1 0))
def laws_bBox (N : Nat) (v1 : (List (Int × ((List Nat) × ((List Nat) × Unit))))) : Option (Bool) :=
  laws_bBox_g N v1 (laws_bBox_l0 N N)
set_option maxRecDepth 100000
noncomputable def laws_bBox_e1 (N : Nat) (m0 : Nat) (v1 : (List (Int × ((List Nat) × ((List Nat) × Unit))))) (v13 : Int) (v14 : (Int × ((List Nat) × ((List Nat) × Unit)))) : Option (HR [.bool]) :=
  gate N (evC (laws_bBox_E N) (codeAt (bodyOf Try.f14) [1, 0, 1, 0, 0, 1, 1, 0, 0, 1, 0, 1]) ⟨[(4, .ref 4 0), (6, .pv (.list (.pair (.int .i64) (.pair (.list .float) (.pair (.list .float) .unit)))) v1), (7, .pv (.int .i64) (v1.length : Int)), (8, .pv (.int .i64) v13), (37, .pv .bool true)], [(4, .box [.pv (.int .i64) v14.1, .pv (.list .float) v14.2.1, .pv (.list .float) v14.2.2.1])], []⟩ (kSeq (advOf (laws_bBox_E N) (codeAt (bodyOf Try.f14) [1, 0, 1, 0, 0, 1, 1, 0, 0, 1, 1])) (evC (laws_bBox_E N) (codeAt (bodyOf Try.f14) [1, 0, 1, 0, 0, 1, 1, 0, 0, 1, 1])) (kBlock 1 (kSeq (advOf (laws_bBox_E N) (codeAt (bodyOf Try.f14) [1, 0, 1, 0, 0, 1, 1, 1])) (evC (laws_bBox_E N) (codeAt (bodyOf Try.f14) [1, 0, 1, 0, 0, 1, 1, 1])) (kSeq (advOf (laws_bBox_E N) (codeAt (bodyOf Try.f14) [1, 0, 1, 0, 0])) (fun st K => loopN (advOf (laws_bBox_E N) (codeAt (bodyOf Try.f14) [1, 0, 1, 0, 0])) (evC (laws_bBox_E N) (codeAt (bodyOf Try.f14) [1, 0, 1, 0, 0])) m0 st K) (kBlock 0 (kSeq (advOf (laws_bBox_E N) (codeAt (bodyOf Try.f14) [1, 1])) (evC (laws_bBox_E N) (codeAt (bodyOf Try.f14) [1, 1])) (kEnd (laws_bBox_E N) [] Try.f14.results.toList [.bool]))))))))
noncomputable def laws_bBox_e2 (N : Nat) (m0 : Nat) (v1 : (List (Int × ((List Nat) × ((List Nat) × Unit))))) (n : Nat) (v13 : Int) (v14 : (Int × ((List Nat) × ((List Nat) × Unit)))) (v20 : Int) : Option (HR [.bool]) :=
  loopN (advOf (laws_bBox_E N) (codeAt (bodyOf Try.f14) [1, 0, 1, 0, 0, 1, 1, 0, 0, 1, 1, 1, 0, 0])) (evC (laws_bBox_E N) (codeAt (bodyOf Try.f14) [1, 0, 1, 0, 0, 1, 1, 0, 0, 1, 1, 1, 0, 0])) n ⟨[(4, .ref 4 0), (6, .pv (.list (.pair (.int .i64) (.pair (.list .float) (.pair (.list .float) .unit)))) v1), (7, .pv (.int .i64) (v1.length : Int)), (8, .pv (.int .i64) v13), (40, .pv (.int .i64) (v14.2.1.length : Int)), (41, .pv (.int .i64) v20)], [(4, .box [.pv (.int .i64) v14.1, .pv (.list .float) v14.2.1, .pv (.list .float) v14.2.2.1])], []⟩ (kBlock 2 (kBlock 1 (kSeq (advOf (laws_bBox_E N) (codeAt (bodyOf Try.f14) [1, 0, 1, 0, 0, 1, 1, 1])) (evC (laws_bBox_E N) (codeAt (bodyOf Try.f14) [1, 0, 1, 0, 0, 1, 1, 1])) (kSeq (advOf (laws_bBox_E N) (codeAt (bodyOf Try.f14) [1, 0, 1, 0, 0])) (fun st K => loopN (advOf (laws_bBox_E N) (codeAt (bodyOf Try.f14) [1, 0, 1, 0, 0])) (evC (laws_bBox_E N) (codeAt (bodyOf Try.f14) [1, 0, 1, 0, 0])) m0 st K) (kBlock 0 (kSeq (advOf (laws_bBox_E N) (codeAt (bodyOf Try.f14) [1, 1])) (evC (laws_bBox_E N) (codeAt (bodyOf Try.f14) [1, 1])) (kEnd (laws_bBox_E N) [] Try.f14.results.toList [.bool])))))))
noncomputable def laws_bBox_e0 (N : Nat) (n : Nat) (v1 : (List (Int × ((List Nat) × ((List Nat) × Unit))))) (v13 : Int) : Option (HR [.bool]) :=
  loopN (advOf (laws_bBox_E N) (codeAt (bodyOf Try.f14) [1, 0, 1, 0, 0])) (evC (laws_bBox_E N) (codeAt (bodyOf Try.f14) [1, 0, 1, 0, 0])) n ⟨[(6, .pv (.list (.pair (.int .i64) (.pair (.list .float) (.pair (.list .float) .unit)))) v1), (7, .pv (.int .i64) (v1.length : Int)), (8, .pv (.int .i64) v13)], [], []⟩ (kBlock 0 (kSeq (advOf (laws_bBox_E N) (codeAt (bodyOf Try.f14) [1, 1])) (evC (laws_bBox_E N) (codeAt (bodyOf Try.f14) [1, 1])) (kEnd (laws_bBox_E N) [] Try.f14.results.toList [.bool])))
theorem laws_bBox_t1 (N : Nat) (m0 : Nat) (v1 : (List (Int × ((List Nat) × ((List Nat) × Unit))))) (v13 : Int) (v14 : (Int × ((List Nat) × ((List Nat) × Unit)))) : laws_bBox_e1 N m0 v1 v13 v14 = laws_bBox_j1 N (laws_bBox_e0 N m0 v1) v1 v13 v14 := by
  exact (congrArg (gate N) (show evC (laws_bBox_E N) (codeAt (bodyOf Try.f14) [1, 0, 1, 0, 0, 1, 1, 0, 0, 1, 0, 1]) ⟨[(4, .ref 4 0), (6, .pv (.list (.pair (.int .i64) (.pair (.list .float) (.pair (.list .float) .unit)))) v1), (7, .pv (.int .i64) (v1.length : Int)), (8, .pv (.int .i64) v13), (37, .pv .bool true)], [(4, .box [.pv (.int .i64) v14.1, .pv (.list .float) v14.2.1, .pv (.list .float) v14.2.2.1])], []⟩ (kSeq (advOf (laws_bBox_E N) (codeAt (bodyOf Try.f14) [1, 0, 1, 0, 0, 1, 1, 0, 0, 1, 1])) (evC (laws_bBox_E N) (codeAt (bodyOf Try.f14) [1, 0, 1, 0, 0, 1, 1, 0, 0, 1, 1])) (kBlock 1 (kSeq (advOf (laws_bBox_E N) (codeAt (bodyOf Try.f14) [1, 0, 1, 0, 0, 1, 1, 1])) (evC (laws_bBox_E N) (codeAt (bodyOf Try.f14) [1, 0, 1, 0, 0, 1, 1, 1])) (kSeq (advOf (laws_bBox_E N) (codeAt (bodyOf Try.f14) [1, 0, 1, 0, 0])) (fun st K => loopN (advOf (laws_bBox_E N) (codeAt (bodyOf Try.f14) [1, 0, 1, 0, 0])) (evC (laws_bBox_E N) (codeAt (bodyOf Try.f14) [1, 0, 1, 0, 0])) m0 st K) (kBlock 0 (kSeq (advOf (laws_bBox_E N) (codeAt (bodyOf Try.f14) [1, 1])) (evC (laws_bBox_E N) (codeAt (bodyOf Try.f14) [1, 1])) (kEnd (laws_bBox_E N) [] Try.f14.results.toList [.bool]))))))) = laws_bBox_g1 N v1 v13 v14 (laws_bBox_e0 N m0 v1) from by kernel_rfl)).trans (by rfl)
theorem laws_bBox_t2 (N : Nat) (m0 : Nat) (v1 : (List (Int × ((List Nat) × ((List Nat) × Unit))))) : ∀ (n : Nat) (v13 : Int) (v14 : (Int × ((List Nat) × ((List Nat) × Unit)))) (v20 : Int), laws_bBox_e2 N m0 v1 n v13 v14 v20 = laws_bBox_l2 N (laws_bBox_e0 N m0 v1) v1 n v13 v14 v20
  | 0, _, _, _ => rfl
  | n + 1, v13, v14, v20 => by
    have h : laws_bBox_e2 N m0 v1 n v13 v14 = laws_bBox_l2 N (laws_bBox_e0 N m0 v1) v1 n v13 v14 := by funext v20; exact laws_bBox_t2 N m0 v1 n v13 v14 v20
    exact (show laws_bBox_e2 N m0 v1 (n + 1) v13 v14 v20 = laws_bBox_g2 N v1 v13 v14 (laws_bBox_e2 N m0 v1 n v13 v14) (laws_bBox_e0 N m0 v1) v20 from by kernel_rfl).trans (by rw [h]; rfl)
theorem laws_bBox_t0 (N : Nat) : ∀ (n : Nat) (v1 : (List (Int × ((List Nat) × ((List Nat) × Unit))))) (v13 : Int), laws_bBox_e0 N n v1 v13 = laws_bBox_l0 N n v1 v13
  | 0, _, _ => rfl
  | n + 1, v1, v13 => by
    have h1 : (laws_bBox_e1 N n v1) = (laws_bBox_j1 N (laws_bBox_e0 N n v1) v1) := by funext v13 v14; exact laws_bBox_t1 N n v1 v13 v14
    have h2 : (laws_bBox_e2 N n v1 N) = (laws_bBox_l2 N (laws_bBox_e0 N n v1) v1 N) := by funext v13 v14 v20; exact laws_bBox_t2 N n v1 N v13 v14 v20
    have h : laws_bBox_e0 N n v1 = laws_bBox_l0 N n v1 := by funext v13; exact laws_bBox_t0 N n v1 v13
    exact (show laws_bBox_e0 N (n + 1) v1 v13 = laws_bBox_g0 N v1 (laws_bBox_e1 N n v1) (laws_bBox_e2 N n v1 N) (laws_bBox_e0 N n v1) v13 from by kernel_rfl).trans (by rw [h1, h2, h]; rfl)
theorem laws_bBox_t (N : Nat) (v1 : (List (Int × ((List Nat) × ((List Nat) × Unit))))) : evF (laws_bBox_E N) [] Try.f14 [.k (.list (.pair (.int .i64) (.pair (.list .float) (.pair (.list .float) .unit))))] [.bool] (v1, ()) = laws_bBox N v1 := by
  have h0 : (laws_bBox_e0 N N) = (laws_bBox_l0 N N) := by funext v1 v13; exact laws_bBox_t0 N N v1 v13
  exact (show evF (laws_bBox_E N) [] Try.f14 [.k (.list (.pair (.int .i64) (.pair (.list .float) (.pair (.list .float) .unit))))] [.bool] (v1, ()) = laws_bBox_g N v1 (laws_bBox_e0 N N) from by kernel_rfl).trans (by rw [h0]; rfl)
noncomputable def laws_bBox_con (N : Nat) : Con := ⟨14, [.k (.list (.pair (.int .i64) (.pair (.list .float) (.pair (.list .float) .unit))))], [.bool], fun x => laws_bBox N x.1⟩
theorem laws_bBox_s (N : Nat) : (laws_bBox_con N).Sound Try.prog :=
  Con.sound_of (c := laws_bBox_con N) (E := (laws_bBox_E N)) (idle := []) Try.func14 (by kernel_rfl) (by kernel_rfl) ⟨(allCons (spec_Stride_s N) (allCons (laws_gNumber_s N) allNil)), allNil⟩ allNil (fun x y h => (laws_bBox_t N x.1).trans h)
/-- pub-orthodrome/laws.gCoord -/
noncomputable def laws_gCoord_E (N : Nat) : Env := ⟨Try.prog, N, [spec_Stride_con N], [(0, ⟨[], [], [0, 1], [], none⟩), (1, ⟨[], [], [0, 1], [], none⟩)], kdL [], []⟩
def laws_gCoord_g (N : Nat) (v1 : Int) (v2 : (List Nat)) : Option (Bool) :=
  (bif (decide ((v1 : Int) ≥ 1)) then (bif (decide ((v1 : Int) ≤ 9)) then ((spec_Stride N v1).bind fun v3 => (some ((v2.length : Int) == v3))) else (some false)) else (some false))
def laws_gCoord (N : Nat) (v1 : Int) (v2 : (List Nat)) : Option (Bool) :=
  laws_gCoord_g N v1 v2
set_option maxRecDepth 100000
theorem laws_gCoord_t (N : Nat) (v1 : Int) (v2 : (List Nat)) : evF (laws_gCoord_E N) [] Try.f15 [.k (.int .i64), .k (.list .float)] [.bool] (v1, v2, ()) = laws_gCoord N v1 v2 := by
  exact (show evF (laws_gCoord_E N) [] Try.f15 [.k (.int .i64), .k (.list .float)] [.bool] (v1, v2, ()) = laws_gCoord_g N v1 v2 from by kernel_rfl).trans (by rfl)
noncomputable def laws_gCoord_con (N : Nat) : Con := ⟨15, [.k (.int .i64), .k (.list .float)], [.bool], fun x => laws_gCoord N x.1 x.2.1⟩
theorem laws_gCoord_s (N : Nat) : (laws_gCoord_con N).Sound Try.prog :=
  Con.sound_of (c := laws_gCoord_con N) (E := (laws_gCoord_E N)) (idle := []) Try.func15 (by kernel_rfl) (by kernel_rfl) ⟨(allCons (spec_Stride_s N) allNil), allNil⟩ allNil (fun x y h => (laws_gCoord_t N x.1 x.2.1).trans h)
/-- pub-orthodrome/laws.gEach -/
def laws_gEach_g1 (N : Nat) (self : Geo → Option (Bool)) (v1 : Geo) (r1 : Int → Option (Bool)) (v9 : Int) : Option (Bool) :=
  (bif (decide ((v9 : Int) < (v1.kids.length : Int))) then ((nth v1.kids v9).bind fun v10 => ((self (Geo.mk v10.kind v10.layout v10.srid v10.flat v10.ends v10.endss v10.kids)).bind fun v11 => (bif (!v11) then (some false) else ((r1 (IntKind.i64.wrap (v9 + 1))))))) else (some true))
def laws_gEach_l1 (N : Nat) (self : Geo → Option (Bool)) : Nat → Geo → Int → Option (Bool)
  | 0, _, _ => none
  | n + 1, v1, v9 => laws_gEach_g1 N self v1 (laws_gEach_l1 N self n v1) v9
def laws_gEach_g0 (N : Nat) (self : Geo → Option (Bool)) (v1 : Geo) (c1 : Geo → Int → Option (Bool)) (r0 : Int → Option (Bool)) (v4 : Int) : Option (Bool) :=
  (bif (decide ((v4 : Int) < (v1.flat.length : Int))) then ((nth v1.flat v4).bind fun v5 => ((laws_gNumber N v5).bind fun v6 => (bif (!v6) then (some false) else ((r0 (IntKind.i64.wrap (v4 + 1))))))) else ((c1 v1 0)))
def laws_gEach_l0 (N : Nat) (self : Geo → Option (Bool)) : Nat → Geo → Int → Option (Bool)
  | 0, _, _ => none
  | n + 1, v1, v4 => laws_gEach_g0 N self v1 (laws_gEach_l1 N self N) (laws_gEach_l0 N self n v1) v4
def laws_gEach_g (N : Nat) (self : Geo → Option (Bool)) (v1 : Geo) (c0 : Geo → Int → Option (Bool)) : Option (Bool) :=
  ((c0 v1 0))
def laws_gEach (N : Nat) : Nat → Geo → Option (Bool)
  | 0, _ => none
  | d + 1, v1 => laws_gEach_g N (laws_gEach N d) v1 (laws_gEach_l0 N (laws_gEach N d) N)
noncomputable def laws_gEach_con' (N : Nat) (d : Nat) : Con := ⟨16, [.k .geo, .fn 17], [.bool], fun x => laws_gEach N d x.1⟩
noncomputable def laws_gEach_E (N : Nat) (d : Nat) : Env := ⟨Try.prog, N, [laws_gEach_con' N d, laws_gNumber_con N], [(0, ⟨[], [], [0, 1], [], none⟩), (1, ⟨[], [], [1, 2], [2], none⟩), (2, ⟨[], [], [1, 2, 10, 11, 12], [2], none⟩), (3, ⟨[], [], [1, 2, 10, 11, 12], [2], none⟩), (4, ⟨[], [], [1, 2, 6, 10, 11, 12], [2], none⟩), (5, ⟨[], [], [1, 2, 10, 11, 12, 19], [2], none⟩), (6, ⟨[], [], [1, 2, 10, 11, 12], [2], none⟩), (7, ⟨[], [], [1, 2], [2], none⟩), (8, ⟨[], [], [1, 22, 23, 24], [], none⟩), (9, ⟨[], [], [1, 22, 23, 24], [], none⟩), (10, ⟨[], [], [1, 8, 22, 23, 24], [8], none⟩), (11, ⟨[], [], [1, 22, 23, 24, 31], [], none⟩), (12, ⟨[], [], [1, 22, 23, 24], [], none⟩), (13, ⟨[], [], [], [], none⟩)], kdL [], []⟩
set_option maxRecDepth 100000
noncomputable def laws_gEach_e1 (N : Nat) (d : Nat) (n : Nat) (v1 : Geo) (v9 : Int) : Option (HR [.bool]) :=
  loopN (advOf (laws_gEach_E N d) (codeAt (bodyOf Try.f16) [1, 1, 0, 1, 0, 0])) (evC (laws_gEach_E N d) (codeAt (bodyOf Try.f16) [1, 1, 0, 1, 0, 0])) n ⟨[(1, .func 17 []), (22, .pv (.list .geo) v1.kids), (23, .pv (.int .i64) (v1.kids.length : Int)), (24, .pv (.int .i64) v9)], [], []⟩ (kBlock 2 (kSeq (advOf (laws_gEach_E N d) (codeAt (bodyOf Try.f16) [1, 1, 1])) (evC (laws_gEach_E N d) (codeAt (bodyOf Try.f16) [1, 1, 1])) (kEnd (laws_gEach_E N d) [] Try.f16.results.toList [.bool])))
noncomputable def laws_gEach_e0 (N : Nat) (d : Nat) (n : Nat) (v1 : Geo) (v4 : Int) : Option (HR [.bool]) :=
  loopN (advOf (laws_gEach_E N d) (codeAt (bodyOf Try.f16) [1, 0, 1, 0, 0])) (evC (laws_gEach_E N d) (codeAt (bodyOf Try.f16) [1, 0, 1, 0, 0])) n ⟨[(1, .func 17 []), (2, .ref 2 0), (10, .pv (.list .float) v1.flat), (11, .pv (.int .i64) (v1.flat.length : Int)), (12, .pv (.int .i64) v4)], [(2, .box [.pv (.int .i64) v1.kind, .pv (.int .i64) v1.layout, .pv (.int .i64) v1.srid, .pv (.list .float) v1.flat, .pv (.list (.int .i64)) v1.ends, .pv (.list (.list (.int .i64))) v1.endss, .pv (.list .geo) v1.kids])], []⟩ (kBlock 0 (kSeq (advOf (laws_gEach_E N d) (codeAt (bodyOf Try.f16) [1, 1])) (evC (laws_gEach_E N d) (codeAt (bodyOf Try.f16) [1, 1])) (kEnd (laws_gEach_E N d) [] Try.f16.results.toList [.bool])))
theorem laws_gEach_t1 (N : Nat) (d : Nat) : ∀ (n : Nat) (v1 : Geo) (v9 : Int), laws_gEach_e1 N d n v1 v9 = laws_gEach_l1 N (laws_gEach N d) n v1 v9
  | 0, _, _ => rfl
  | n + 1, v1, v9 => by
    have h : laws_gEach_e1 N d n v1 = laws_gEach_l1 N (laws_gEach N d) n v1 := by funext v9; exact laws_gEach_t1 N d n v1 v9
    exact (show laws_gEach_e1 N d (n + 1) v1 v9 = laws_gEach_g1 N (laws_gEach N d) v1 (laws_gEach_e1 N d n v1) v9 from by kernel_rfl).trans (by rw [h]; rfl)
theorem laws_gEach_t0 (N : Nat) (d : Nat) : ∀ (n : Nat) (v1 : Geo) (v4 : Int), laws_gEach_e0 N d n v1 v4 = laws_gEach_l0 N (laws_gEach N d) n v1 v4
  | 0, _, _ => rfl
  | n + 1, v1, v4 => by
    have h1 : (laws_gEach_e1 N d N) = (laws_gEach_l1 N (laws_gEach N d) N) := by funext v1 v9; exact laws_gEach_t1 N d N v1 v9
    have h : laws_gEach_e0 N d n v1 = laws_gEach_l0 N (laws_gEach N d) n v1 := by funext v4; exact laws_gEach_t0 N d n v1 v4
    exact (show laws_gEach_e0 N d (n + 1) v1 v4 = laws_gEach_g0 N (laws_gEach N d) v1 (laws_gEach_e1 N d N) (laws_gEach_e0 N d n v1) v4 from by kernel_rfl).trans (by rw [h1, h]; rfl)
theorem laws_gEach_t (N : Nat) (d : Nat) (v1 : Geo) : evF (laws_gEach_E N d) [] Try.f16 [.k .geo, .fn 17] [.bool] (v1, ()) = laws_gEach N (d + 1) v1 := by
  have h0 : (laws_gEach_e0 N d N) = (laws_gEach_l0 N (laws_gEach N d) N) := by funext v1 v4; exact laws_gEach_t0 N d N v1 v4
  exact (show evF (laws_gEach_E N d) [] Try.f16 [.k .geo, .fn 17] [.bool] (v1, ()) = laws_gEach_g N (laws_gEach N d) v1 (laws_gEach_e0 N d N) from by kernel_rfl).trans (by rw [h0]; rfl)
theorem laws_gEach_s' (N : Nat) : ∀ d, (laws_gEach_con' N d).Sound Try.prog
  | 0 => fun _ _ _ _ _ _ _ h => by cases h
  | d + 1 => Con.sound_of (c := laws_gEach_con' N (d + 1)) (E := (laws_gEach_E N d)) (idle := []) Try.func16 (by kernel_rfl) (by kernel_rfl) ⟨(allCons (laws_gEach_s' N d) (allCons (laws_gNumber_s N) allNil)), allNil⟩ allNil (fun x y h => (laws_gEach_t N d x.1).trans h)
noncomputable def laws_gEach_con (N : Nat) : Con := laws_gEach_con' N N
theorem laws_gEach_s (N : Nat) : (laws_gEach_con N).Sound Try.prog := laws_gEach_s' N N
/-- pub-orthodrome/spec.SameBox -/
noncomputable def spec_SameBox_E (N : Nat) : Env := ⟨Try.prog, N, [], [(0, ⟨[], [], [0, 1], [], none⟩), (1, ⟨[], [], [2, 3], [2, 3], none⟩), (2, ⟨[], [], [2, 3, 37], [2, 3], some N⟩), (3, ⟨[], [], [2, 3], [2, 3], none⟩), (4, ⟨[], [], [2, 3, 40, 41], [2, 3], none⟩), (5, ⟨[], [], [2, 3, 40, 41], [2, 3], none⟩), (6, ⟨[], [], [2, 3, 5, 40, 41], [2, 3], none⟩), (7, ⟨[], [], [2, 3, 40, 41, 67], [2, 3], none⟩), (8, ⟨[], [], [2, 3, 40, 41], [2, 3], none⟩), (9, ⟨[], [], [], [], none⟩)], kdL [], []⟩
def spec_SameBox_g0 (N : Nat) (v1 : (Int × ((List Nat) × ((List Nat) × Unit)))) (v2 : (Int × ((List Nat) × ((List Nat) × Unit)))) : Option (Bool) :=
  (some false)
def spec_SameBox_j0 (N : Nat) (v1 : (Int × ((List Nat) × ((List Nat) × Unit)))) (v2 : (Int × ((List Nat) × ((List Nat) × Unit)))) : Option (Bool) :=
  gate N (spec_SameBox_g0 N v1 v2)
def spec_SameBox_g1 (N : Nat) (v1 : (Int × ((List Nat) × ((List Nat) × Unit)))) (v2 : (Int × ((List Nat) × ((List Nat) × Unit)))) (r1 : Int → Option (Bool)) (v7 : Int) : Option (Bool) :=
  (bif (decide ((v7 : Int) < (v1.2.1.length : Int))) then ((nth v1.2.1 v7).bind fun v8 => (nth v2.2.1 v7).bind fun v9 => bif (fne v8 v9) then (some false) else ((nth v1.2.2.1 v7).bind fun v10 => (nth v2.2.2.1 v7).bind fun v11 => (bif (fne v10 v11) then (some false) else ((r1 (IntKind.i64.wrap (v7 + 1))))))) else (some true))
def spec_SameBox_l1 (N : Nat) : Nat → (Int × ((List Nat) × ((List Nat) × Unit))) → (Int × ((List Nat) × ((List Nat) × Unit))) → Int → Option (Bool)
  | 0, _, _, _ => none
  | n + 1, v1, v2, v7 => spec_SameBox_g1 N v1 v2 (spec_SameBox_l1 N n v1 v2) v7
def spec_SameBox_g (N : Nat) (v1 : (Int × ((List Nat) × ((List Nat) × Unit)))) (v2 : (Int × ((List Nat) × ((List Nat) × Unit)))) (c0 : (Int × ((List Nat) × ((List Nat) × Unit))) → (Int × ((List Nat) × ((List Nat) × Unit))) → Option (Bool)) (c1 : (Int × ((List Nat) × ((List Nat) × Unit))) → (Int × ((List Nat) × ((List Nat) × Unit))) → Int → Option (Bool)) : Option (Bool) :=
  (bif (v1.1 != v2.1) then (c0 v1 v2) else (bif ((v1.2.1.length : Int) != (v2.2.1.length : Int)) then (c0 v1 v2) else (bif ((v1.2.2.1.length : Int) != (v2.2.2.1.length : Int)) then (c0 v1 v2) else (gate N (bif ((v1.2.1.length : Int) != (v1.2.2.1.length : Int)) then (some false) else ((c1 v1 v2 0)))))))
def spec_SameBox (N : Nat) (v1 : (Int × ((List Nat) × ((List Nat) × Unit)))) (v2 : (Int × ((List Nat) × ((List Nat) × Unit)))) : Option (Bool) :=
  spec_SameBox_g N v1 v2 (spec_SameBox_j0 N) (spec_SameBox_l1 N N)
set_option maxRecDepth 100000
noncomputable def spec_SameBox_e0 (N : Nat) (v1 : (Int × ((List Nat) × ((List Nat) × Unit)))) (v2 : (Int × ((List Nat) × ((List Nat) × Unit)))) : Option (HR [.bool]) :=
  gate N (evC (spec_SameBox_E N) (codeAt (bodyOf Try.f19) [1, 0, 1]) ⟨[(2, .ref 2 0), (3, .ref 3 0), (37, .pv .bool true)], [(2, .box [.pv (.int .i64) v1.1, .pv (.list .float) v1.2.1, .pv (.list .float) v1.2.2.1]), (3, .box [.pv (.int .i64) v2.1, .pv (.list .float) v2.2.1, .pv (.list .float) v2.2.2.1])], []⟩ (kSeq (advOf (spec_SameBox_E N) (codeAt (bodyOf Try.f19) [1, 1])) (evC (spec_SameBox_E N) (codeAt (bodyOf Try.f19) [1, 1])) (kEnd (spec_SameBox_E N) [] Try.f19.results.toList [.bool])))
noncomputable def spec_SameBox_e1 (N : Nat) (n : Nat) (v1 : (Int × ((List Nat) × ((List Nat) × Unit)))) (v2 : (Int × ((List Nat) × ((List Nat) × Unit)))) (v7 : Int) : Option (HR [.bool]) :=
  loopN (advOf (spec_SameBox_E N) (codeAt (bodyOf Try.f19) [1, 1, 0, 1, 0, 0])) (evC (spec_SameBox_E N) (codeAt (bodyOf Try.f19) [1, 1, 0, 1, 0, 0])) n ⟨[(2, .ref 2 0), (3, .ref 3 0), (40, .pv (.int .i64) (v1.2.1.length : Int)), (41, .pv (.int .i64) v7)], [(2, .box [.pv (.int .i64) v1.1, .pv (.list .float) v1.2.1, .pv (.list .float) v1.2.2.1]), (3, .box [.pv (.int .i64) v2.1, .pv (.list .float) v2.2.1, .pv (.list .float) v2.2.2.1])], []⟩ (kBlock 0 (kSeq (advOf (spec_SameBox_E N) (codeAt (bodyOf Try.f19) [1, 1, 1])) (evC (spec_SameBox_E N) (codeAt (bodyOf Try.f19) [1, 1, 1])) (kEnd (spec_SameBox_E N) [] Try.f19.results.toList [.bool])))
theorem spec_SameBox_t0 (N : Nat) (v1 : (Int × ((List Nat) × ((List Nat) × Unit)))) (v2 : (Int × ((List Nat) × ((List Nat) × Unit)))) : spec_SameBox_e0 N v1 v2 = spec_SameBox_j0 N v1 v2 := by
  exact (congrArg (gate N) (show evC (spec_SameBox_E N) (codeAt (bodyOf Try.f19) [1, 0, 1]) ⟨[(2, .ref 2 0), (3, .ref 3 0), (37, .pv .bool true)], [(2, .box [.pv (.int .i64) v1.1, .pv (.list .float) v1.2.1, .pv (.list .float) v1.2.2.1]), (3, .box [.pv (.int .i64) v2.1, .pv (.list .float) v2.2.1, .pv (.list .float) v2.2.2.1])], []⟩ (kSeq (advOf (spec_SameBox_E N) (codeAt (bodyOf Try.f19) [1, 1])) (evC (spec_SameBox_E N) (codeAt (bodyOf Try.f19) [1, 1])) (kEnd (spec_SameBox_E N) [] Try.f19.results.toList [.bool])) = spec_SameBox_g0 N v1 v2 from by kernel_rfl)).trans (by rfl)
theorem spec_SameBox_t1 (N : Nat) : ∀ (n : Nat) (v1 : (Int × ((List Nat) × ((List Nat) × Unit)))) (v2 : (Int × ((List Nat) × ((List Nat) × Unit)))) (v7 : Int), spec_SameBox_e1 N n v1 v2 v7 = spec_SameBox_l1 N n v1 v2 v7
  | 0, _, _, _ => rfl
  | n + 1, v1, v2, v7 => by
    have h : spec_SameBox_e1 N n v1 v2 = spec_SameBox_l1 N n v1 v2 := by funext v7; exact spec_SameBox_t1 N n v1 v2 v7
    exact (show spec_SameBox_e1 N (n + 1) v1 v2 v7 = spec_SameBox_g1 N v1 v2 (spec_SameBox_e1 N n v1 v2) v7 from by kernel_rfl).trans (by rw [h]; rfl)
theorem spec_SameBox_t (N : Nat) (v1 : (Int × ((List Nat) × ((List Nat) × Unit)))) (v2 : (Int × ((List Nat) × ((List Nat) × Unit)))) : evF (spec_SameBox_E N) [] Try.f19 [.k (.pair (.int .i64) (.pair (.list .float) (.pair (.list .float) .unit))), .k (.pair (.int .i64) (.pair (.list .float) (.pair (.list .float) .unit)))] [.bool] (v1, v2, ()) = spec_SameBox N v1 v2 := by
  have h0 : (spec_SameBox_e0 N) = (spec_SameBox_j0 N) := by funext v1 v2; exact spec_SameBox_t0 N v1 v2
  have h1 : (spec_SameBox_e1 N N) = (spec_SameBox_l1 N N) := by funext v1 v2 v7; exact spec_SameBox_t1 N N v1 v2 v7
  exact (show evF (spec_SameBox_E N) [] Try.f19 [.k (.pair (.int .i64) (.pair (.list .float) (.pair (.list .float) .unit))), .k (.pair (.int .i64) (.pair (.list .float) (.pair (.list .float) .unit)))] [.bool] (v1, v2, ()) = spec_SameBox_g N v1 v2 (spec_SameBox_e0 N) (spec_SameBox_e1 N N) from by kernel_rfl).trans (by rw [h0, h1]; rfl)
noncomputable def spec_SameBox_con (N : Nat) : Con := ⟨19, [.k (.pair (.int .i64) (.pair (.list .float) (.pair (.list .float) .unit))), .k (.pair (.int .i64) (.pair (.list .float) (.pair (.list .float) .unit)))], [.bool], fun x => spec_SameBox N x.1 x.2.1⟩
theorem spec_SameBox_s (N : Nat) : (spec_SameBox_con N).Sound Try.prog :=
  Con.sound_of (c := spec_SameBox_con N) (E := (spec_SameBox_E N)) (idle := []) Try.func19 (by kernel_rfl) (by kernel_rfl) ⟨allNil, allNil⟩ allNil (fun x y h => (spec_SameBox_t N x.1 x.2.1).trans h)
/-- pub-orthodrome/impl.floats -/
noncomputable def impl_floats_E (N : Nat) : Env := ⟨Try.prog, N, [], [(0, ⟨[], [], [0], [], none⟩), (1, ⟨[], [], [0], [], none⟩)], kdL [(35, .float)], []⟩
def impl_floats_g (N : Nat) (v1 : (List Nat)) : Option (((List Nat) × Unit)) :=
  ((lim (v1.length * 8)).bind fun _ => (some (v1, ())))
def impl_floats (N : Nat) (v1 : (List Nat)) : Option (((List Nat) × Unit)) :=
  impl_floats_g N v1
set_option maxRecDepth 100000
theorem impl_floats_t (N : Nat) (v1 : (List Nat)) : evF2 (impl_floats_E N) [] Try.f67 [.k (.list .float)] [⟨[.row 35 .float], [none]⟩] (v1, ()) = impl_floats N v1 := by
  exact (show evF2 (impl_floats_E N) [] Try.f67 [.k (.list .float)] [⟨[.row 35 .float], [none]⟩] (v1, ()) = impl_floats_g N v1 from by kernel_rfl).trans (by rfl)
noncomputable def impl_floats_con (N : Nat) : Con2 := ⟨67, [.k (.list .float)], [⟨[.row 35 .float], [none]⟩], fun x => impl_floats N x.1⟩
theorem impl_floats_s (N : Nat) : (impl_floats_con N).Sound Try.prog :=
  Con2.sound_of (c := impl_floats_con N) (E := (impl_floats_E N)) (idle := []) Try.func67 (by kernel_rfl) (by kernel_rfl) ⟨allNil, allNil⟩ allNil (fun x y h => (impl_floats_t N x.1).trans h)
/-- pub-orthodrome/pub/gogeom.DoorBounds -/
noncomputable def gogeom_DoorBounds_b_E (N : Nat) : Env := ⟨Try.prog, N, [], [(0, ⟨[], [], [0, 1, 2], [1000000, 1000001], none⟩), (1, ⟨[], [], [0, 1, 2], [1000000, 1000001], none⟩)], kdL [], []⟩
def gogeom_DoorBounds_b_g (N : Nat) (v1 : Int) (v2 : (List Nat)) (v3 : (List Nat)) : Option (((Int × (List Nat) × (List Nat) × Unit) × Unit)) :=
  (some ((v1, v2, v3, ()), ()))
def gogeom_DoorBounds_b (N : Nat) (v1 : Int) (v2 : (List Nat)) (v3 : (List Nat)) : Option (((Int × (List Nat) × (List Nat) × Unit) × Unit)) :=
  gogeom_DoorBounds_b_g N v1 v2 v3
set_option maxRecDepth 100000
theorem gogeom_DoorBounds_b_t (N : Nat) (v1 : Int) (v2 : (List Nat)) (v3 : (List Nat)) : evF2 (gogeom_DoorBounds_b_E N) [] Try.f89 [.k (.int .i64), .row 35 .float, .row 35 .float] [⟨[.box [.k (.int .i64), .row 35 .float, .row 35 .float]], [none, none, none]⟩] (v1, v2, v3, ()) = gogeom_DoorBounds_b N v1 v2 v3 := by
  exact (show evF2 (gogeom_DoorBounds_b_E N) [] Try.f89 [.k (.int .i64), .row 35 .float, .row 35 .float] [⟨[.box [.k (.int .i64), .row 35 .float, .row 35 .float]], [none, none, none]⟩] (v1, v2, v3, ()) = gogeom_DoorBounds_b_g N v1 v2 v3 from by kernel_rfl).trans (by rfl)
noncomputable def gogeom_DoorBounds_b_con (N : Nat) : Con2 := ⟨89, [.k (.int .i64), .row 35 .float, .row 35 .float], [⟨[.box [.k (.int .i64), .row 35 .float, .row 35 .float]], [none, none, none]⟩], fun x => gogeom_DoorBounds_b N x.1 x.2.1 x.2.2.1⟩
theorem gogeom_DoorBounds_b_s (N : Nat) : (gogeom_DoorBounds_b_con N).Sound Try.prog :=
  Con2.sound_of (c := gogeom_DoorBounds_b_con N) (E := (gogeom_DoorBounds_b_E N)) (idle := []) Try.func89 (by kernel_rfl) (by kernel_rfl) ⟨allNil, allNil⟩ allNil (fun x y h => (gogeom_DoorBounds_b_t N x.1 x.2.1 x.2.2.1).trans h)
/-- pub-orthodrome/impl.box -/
noncomputable def impl_box_E (N : Nat) : Env := ⟨Try.prog, N, [], [(0, ⟨[], [], [0], [], none⟩), (1, ⟨[], [], [1], [1], none⟩)], kdL [], [impl_floats_con N, gogeom_DoorBounds_b_con N]⟩
def impl_box_g (N : Nat) (v1 : (Int × ((List Nat) × ((List Nat) × Unit)))) : Option (((Int × (List Nat) × (List Nat) × Unit) × Unit)) :=
  ((impl_floats N v1.2.1).bind fun v2 => (impl_floats N v1.2.2.1).bind fun v3 => (gogeom_DoorBounds_b N v1.1 v2.1 v3.1).bind fun v4 => (some ((v4.1.1, v4.1.2.1, v4.1.2.2.1, ()), ())))
def impl_box (N : Nat) (v1 : (Int × ((List Nat) × ((List Nat) × Unit)))) : Option (((Int × (List Nat) × (List Nat) × Unit) × Unit)) :=
  impl_box_g N v1
set_option maxRecDepth 100000
theorem impl_box_t (N : Nat) (v1 : (Int × ((List Nat) × ((List Nat) × Unit)))) : evF2 (impl_box_E N) [] Try.f50 [.k (.pair (.int .i64) (.pair (.list .float) (.pair (.list .float) .unit)))] [⟨[.box [.k (.int .i64), .row 35 .float, .row 35 .float]], [none]⟩] (v1, ()) = impl_box N v1 := by
  exact (show evF2 (impl_box_E N) [] Try.f50 [.k (.pair (.int .i64) (.pair (.list .float) (.pair (.list .float) .unit)))] [⟨[.box [.k (.int .i64), .row 35 .float, .row 35 .float]], [none]⟩] (v1, ()) = impl_box_g N v1 from by kernel_rfl).trans (by rfl)
noncomputable def impl_box_con (N : Nat) : Con2 := ⟨50, [.k (.pair (.int .i64) (.pair (.list .float) (.pair (.list .float) .unit)))], [⟨[.box [.k (.int .i64), .row 35 .float, .row 35 .float]], [none]⟩], fun x => impl_box N x.1⟩
theorem impl_box_s (N : Nat) : (impl_box_con N).Sound Try.prog :=
  Con2.sound_of (c := impl_box_con N) (E := (impl_box_E N)) (idle := []) Try.func50 (by kernel_rfl) (by kernel_rfl) ⟨allNil, (allCons (impl_floats_s N) (allCons (gogeom_DoorBounds_b_s N) allNil))⟩ allNil (fun x y h => (impl_box_t N x.1).trans h)
/-- (pub-orthodrome/pub/gogeom.Layout).Stride -/
noncomputable def gogeom_Layout_Stride_E (N : Nat) : Env := ⟨Try.prog, N, [], [(0, ⟨[], [], [0], [], none⟩), (1, ⟨[], [], [0], [], none⟩), (3, ⟨[], [], [0, 3], [], none⟩), (4, ⟨[], [], [0, 3, 5], [], none⟩), (6, ⟨[], [], [0, 3, 7], [], none⟩), (8, ⟨[], [], [0, 3, 9], [], none⟩), (10, ⟨[], [], [0, 3, 11], [], none⟩), (12, ⟨[], [], [0, 13], [], none⟩)], kdL [], []⟩
def gogeom_Layout_Stride_g (N : Nat) (v1 : Int) : Option (Int) :=
  (bif (v1 == 0) then (some 0) else (bif (v1 == 1) then (some 2) else (bif (v1 == 2) then (some 3) else (bif (v1 == 3) then (some 3) else (bif (v1 == 4) then (some 4) else (some v1))))))
def gogeom_Layout_Stride (N : Nat) (v1 : Int) : Option (Int) :=
  gogeom_Layout_Stride_g N v1
set_option maxRecDepth 100000
theorem gogeom_Layout_Stride_t (N : Nat) (v1 : Int) : evF (gogeom_Layout_Stride_E N) [] Try.f90 [.k (.int .i64)] [(.int .i64)] (v1, ()) = gogeom_Layout_Stride N v1 := by
  exact (show evF (gogeom_Layout_Stride_E N) [] Try.f90 [.k (.int .i64)] [(.int .i64)] (v1, ()) = gogeom_Layout_Stride_g N v1 from by kernel_rfl).trans (by rfl)
noncomputable def gogeom_Layout_Stride_con (N : Nat) : Con := ⟨90, [.k (.int .i64)], [(.int .i64)], fun x => gogeom_Layout_Stride N x.1⟩
theorem gogeom_Layout_Stride_s (N : Nat) : (gogeom_Layout_Stride_con N).Sound Try.prog :=
  Con.sound_of (c := gogeom_Layout_Stride_con N) (E := (gogeom_Layout_Stride_E N)) (idle := []) Try.func90 (by kernel_rfl) (by kernel_rfl) ⟨allNil, allNil⟩ allNil (fun x y h => (gogeom_Layout_Stride_t N x.1).trans h)
/-- math.archMin -/
def math_archMin (N : Nat) (v1 : Nat) (v2 : Nat) : Option Nat := some (fpick true .lt v1 v2)
noncomputable def math_archMin_con (N : Nat) : Con := ⟨130, [.k .float, .k .float], [.float], fun x => math_archMin N x.1 x.2.1⟩
theorem math_archMin_s (N : Nat) : (math_archMin_con N).Sound Try.prog := pick_of (name := "math.archMin") Try.func130 (by kernel_rfl) (by kernel_rfl) (by kernel_rfl) (by kernel_rfl)
/-- math.Min -/
noncomputable def math_Min_E (N : Nat) : Env := ⟨Try.prog, N, [math_archMin_con N], [(0, ⟨[], [], [0, 1], [], none⟩), (1, ⟨[], [], [0, 1], [], none⟩), (2, ⟨[], [], [0, 1], [], none⟩)], kdL [], []⟩
def math_Min_g (N : Nat) (v1 : Nat) (v2 : Nat) : Option (Nat) :=
  ((math_archMin N v1 v2).bind fun v3 => (some v3))
def math_Min (N : Nat) (v1 : Nat) (v2 : Nat) : Option (Nat) :=
  math_Min_g N v1 v2
set_option maxRecDepth 100000
theorem math_Min_t (N : Nat) (v1 : Nat) (v2 : Nat) : evF (math_Min_E N) [] Try.f91 [.k .float, .k .float] [.float] (v1, v2, ()) = math_Min N v1 v2 := by
  exact (show evF (math_Min_E N) [] Try.f91 [.k .float, .k .float] [.float] (v1, v2, ()) = math_Min_g N v1 v2 from by kernel_rfl).trans (by rfl)
noncomputable def math_Min_con (N : Nat) : Con := ⟨91, [.k .float, .k .float], [.float], fun x => math_Min N x.1 x.2.1⟩
theorem math_Min_s (N : Nat) : (math_Min_con N).Sound Try.prog :=
  Con.sound_of (c := math_Min_con N) (E := (math_Min_E N)) (idle := []) Try.func91 (by kernel_rfl) (by kernel_rfl) ⟨(allCons (math_archMin_s N) allNil), allNil⟩ allNil (fun x y h => (math_Min_t N x.1 x.2.1).trans h)
/-- math.archMax -/
def math_archMax (N : Nat) (v1 : Nat) (v2 : Nat) : Option Nat := some (fpick false .gt v1 v2)
noncomputable def math_archMax_con (N : Nat) : Con := ⟨132, [.k .float, .k .float], [.float], fun x => math_archMax N x.1 x.2.1⟩
theorem math_archMax_s (N : Nat) : (math_archMax_con N).Sound Try.prog := pick_of (name := "math.archMax") Try.func132 (by kernel_rfl) (by kernel_rfl) (by kernel_rfl) (by kernel_rfl)
/-- math.Max -/
noncomputable def math_Max_E (N : Nat) : Env := ⟨Try.prog, N, [math_archMax_con N], [(0, ⟨[], [], [0, 1], [], none⟩), (1, ⟨[], [], [0, 1], [], none⟩), (2, ⟨[], [], [0, 1], [], none⟩)], kdL [], []⟩
def math_Max_g (N : Nat) (v1 : Nat) (v2 : Nat) : Option (Nat) :=
  ((math_archMax N v1 v2).bind fun v3 => (some v3))
def math_Max (N : Nat) (v1 : Nat) (v2 : Nat) : Option (Nat) :=
  math_Max_g N v1 v2
set_option maxRecDepth 100000
theorem math_Max_t (N : Nat) (v1 : Nat) (v2 : Nat) : evF (math_Max_E N) [] Try.f92 [.k .float, .k .float] [.float] (v1, v2, ()) = math_Max N v1 v2 := by
  exact (show evF (math_Max_E N) [] Try.f92 [.k .float, .k .float] [.float] (v1, v2, ()) = math_Max_g N v1 v2 from by kernel_rfl).trans (by rfl)
noncomputable def math_Max_con (N : Nat) : Con := ⟨92, [.k .float, .k .float], [.float], fun x => math_Max N x.1 x.2.1⟩
theorem math_Max_s (N : Nat) : (math_Max_con N).Sound Try.prog :=
  Con.sound_of (c := math_Max_con N) (E := (math_Max_E N)) (idle := []) Try.func92 (by kernel_rfl) (by kernel_rfl) ⟨(allCons (math_archMax_s N) allNil), allNil⟩ allNil (fun x y h => (math_Max_t N x.1 x.2.1).trans h)
/-- (*pub-orthodrome/pub/gogeom.Bounds).SetCoords -/
noncomputable def gogeom_Bounds_SetCoords_E (N : Nat) : Env := ⟨Try.prog, N, [gogeom_Layout_Stride_con N, math_Min_con N, math_Max_con N], [(0, ⟨[], [], [0, 1, 2], [1000000, 1000001, 1000002], none⟩), (1, ⟨[], [], [0, 1, 2], [1000000, 1000001, 1000002], none⟩), (2, ⟨[], [], [0, 1, 2], [14, 1000000, 1000002], none⟩), (3, ⟨[], [], [0, 1, 2], [14, 23, 1000000], none⟩), (4, ⟨[], [], [0, 1, 2, 30, 31], [14, 23, 1000000], none⟩), (5, ⟨[], [], [0, 1, 2, 30, 31], [14, 23, 1000000], none⟩), (6, ⟨[], [], [0, 1, 2, 7, 30, 31], [14, 23, 1000000], none⟩), (7, ⟨[], [], [0, 1, 2, 7, 30, 31], [14, 23, 1000000], none⟩), (8, ⟨[], [], [0, 1, 2, 30, 31], [14, 23, 1000000], none⟩), (9, ⟨[], [], [0], [14, 23, 1000000], none⟩)], kdL [(35, .float)], []⟩
def gogeom_Bounds_SetCoords_g0 (N : Nat) (v2 : (List Nat)) (v3 : (List Nat)) (v8 : Int) (v1 : (Int × (List Nat) × (List Nat) × Unit)) (r0 : Int → (List Nat) → (List Nat) → Option ((Unit × (Int × (List Nat) × (List Nat) × Unit) × Unit))) (v17 : Int) (v18 : (List Nat)) (v19 : (List Nat)) : Option ((Unit × (Int × (List Nat) × (List Nat) × Unit) × Unit)) :=
  (bif (decide ((v17 : Int) < v8)) then ((nth v2 v17).bind fun v20 => (nth v3 v17).bind fun v21 => (math_Min N v20 v21).bind fun v22 => (chk v17 v18.length).bind fun v23 => ((nth v2 v17).bind fun v24 => (nth v3 v17).bind fun v25 => (math_Max N v24 v25).bind fun v26 => (chk v17 v19.length).bind fun v27 => ((r0 (IntKind.i64.wrap (v17 + 1)) (v18.set v23 v22) (v19.set v27 v26))))) else (some ((), (v1.1, v18, v19, ()), ())))
def gogeom_Bounds_SetCoords_l0 (N : Nat) : Nat → (List Nat) → (List Nat) → Int → (Int × (List Nat) × (List Nat) × Unit) → Int → (List Nat) → (List Nat) → Option ((Unit × (Int × (List Nat) × (List Nat) × Unit) × Unit))
  | 0, _, _, _, _, _, _, _ => none
  | n + 1, v2, v3, v8, v1, v17, v18, v19 => gogeom_Bounds_SetCoords_g0 N v2 v3 v8 v1 (gogeom_Bounds_SetCoords_l0 N n v2 v3 v8 v1) v17 v18 v19
def gogeom_Bounds_SetCoords_g (N : Nat) (v1 : (Int × (List Nat) × (List Nat) × Unit)) (v2 : (List Nat)) (v3 : (List Nat)) (c0 : (List Nat) → (List Nat) → Int → (Int × (List Nat) × (List Nat) × Unit) → Int → (List Nat) → (List Nat) → Option ((Unit × (Int × (List Nat) × (List Nat) × Unit) × Unit))) : Option ((Unit × (Int × (List Nat) × (List Nat) × Unit) × Unit)) :=
  ((gogeom_Layout_Stride N v1.1).bind fun v4 => (mkn v4 v4 8).bind fun v5 => ((gogeom_Layout_Stride N v1.1).bind fun v6 => (mkn v6 v6 8).bind fun v7 => ((gogeom_Layout_Stride N v1.1).bind fun v8 => ((c0 v2 v3 v8 v1 0 (List.replicate v5 (0 : Nat)) (List.replicate v7 (0 : Nat)))))))
def gogeom_Bounds_SetCoords (N : Nat) (v1 : (Int × (List Nat) × (List Nat) × Unit)) (v2 : (List Nat)) (v3 : (List Nat)) : Option ((Unit × (Int × (List Nat) × (List Nat) × Unit) × Unit)) :=
  gogeom_Bounds_SetCoords_g N v1 v2 v3 (gogeom_Bounds_SetCoords_l0 N N)
set_option maxRecDepth 100000
noncomputable def gogeom_Bounds_SetCoords_e0 (N : Nat) (n : Nat) (v2 : (List Nat)) (v3 : (List Nat)) (v8 : Int) (v1 : (Int × (List Nat) × (List Nat) × Unit)) (v17 : Int) (v18 : (List Nat)) (v19 : (List Nat)) : Option (AltD [⟨[.par 0], [some (.box [.k (.int .i64), .row 35 .float, .row 35 .float]), none, none]⟩]) :=
  loopN (advOf (gogeom_Bounds_SetCoords_E N) (codeAt (bodyOf Try.f51) [1, 1, 1, 0, 1, 0, 0])) (evC (gogeom_Bounds_SetCoords_E N) (codeAt (bodyOf Try.f51) [1, 1, 1, 0, 1, 0, 0])) n ⟨[(0, .ref 1000000 0), (1, .pv (.list .float) v2), (2, .pv (.list .float) v3), (30, .pv (.int .i64) v8), (31, .pv (.int .i64) v17)], [(14, .arr 35 .float v18), (23, .arr 35 .float v19), (1000000, .box [.pv (.int .i64) v1.1, .own .float 14, .own .float 23])], []⟩ (kBlock 0 (kSeq (advOf (gogeom_Bounds_SetCoords_E N) (codeAt (bodyOf Try.f51) [1, 1, 1, 1])) (evC (gogeom_Bounds_SetCoords_E N) (codeAt (bodyOf Try.f51) [1, 1, 1, 1])) (kEnd2 (gogeom_Bounds_SetCoords_E N) [] Try.f51.results.toList [⟨[.par 0], [some (.box [.k (.int .i64), .row 35 .float, .row 35 .float]), none, none]⟩] [.ref 1000000 0, .dead, .dead])))
theorem gogeom_Bounds_SetCoords_t0 (N : Nat) : ∀ (n : Nat) (v2 : (List Nat)) (v3 : (List Nat)) (v8 : Int) (v1 : (Int × (List Nat) × (List Nat) × Unit)) (v17 : Int) (v18 : (List Nat)) (v19 : (List Nat)), gogeom_Bounds_SetCoords_e0 N n v2 v3 v8 v1 v17 v18 v19 = gogeom_Bounds_SetCoords_l0 N n v2 v3 v8 v1 v17 v18 v19
  | 0, _, _, _, _, _, _, _ => rfl
  | n + 1, v2, v3, v8, v1, v17, v18, v19 => by
    have h : gogeom_Bounds_SetCoords_e0 N n v2 v3 v8 v1 = gogeom_Bounds_SetCoords_l0 N n v2 v3 v8 v1 := by funext v17 v18 v19; exact gogeom_Bounds_SetCoords_t0 N n v2 v3 v8 v1 v17 v18 v19
    exact (show gogeom_Bounds_SetCoords_e0 N (n + 1) v2 v3 v8 v1 v17 v18 v19 = gogeom_Bounds_SetCoords_g0 N v2 v3 v8 v1 (gogeom_Bounds_SetCoords_e0 N n v2 v3 v8 v1) v17 v18 v19 from by kernel_rfl).trans (by rw [h]; rfl)
theorem gogeom_Bounds_SetCoords_t (N : Nat) (v1 : (Int × (List Nat) × (List Nat) × Unit)) (v2 : (List Nat)) (v3 : (List Nat)) : evF2 (gogeom_Bounds_SetCoords_E N) [] Try.f51 [.box [.k (.int .i64), .row 35 .float, .row 35 .float], .k (.list .float), .k (.list .float)] [⟨[.par 0], [some (.box [.k (.int .i64), .row 35 .float, .row 35 .float]), none, none]⟩] (v1, v2, v3, ()) = gogeom_Bounds_SetCoords N v1 v2 v3 := by
  have h0 : (gogeom_Bounds_SetCoords_e0 N N) = (gogeom_Bounds_SetCoords_l0 N N) := by funext v2 v3 v8 v1 v17 v18 v19; exact gogeom_Bounds_SetCoords_t0 N N v2 v3 v8 v1 v17 v18 v19
  exact (show evF2 (gogeom_Bounds_SetCoords_E N) [] Try.f51 [.box [.k (.int .i64), .row 35 .float, .row 35 .float], .k (.list .float), .k (.list .float)] [⟨[.par 0], [some (.box [.k (.int .i64), .row 35 .float, .row 35 .float]), none, none]⟩] (v1, v2, v3, ()) = gogeom_Bounds_SetCoords_g N v1 v2 v3 (gogeom_Bounds_SetCoords_e0 N N) from by kernel_rfl).trans (by rw [h0]; rfl)
noncomputable def gogeom_Bounds_SetCoords_con (N : Nat) : Con2 := ⟨51, [.box [.k (.int .i64), .row 35 .float, .row 35 .float], .k (.list .float), .k (.list .float)], [⟨[.par 0], [some (.box [.k (.int .i64), .row 35 .float, .row 35 .float]), none, none]⟩], fun x => gogeom_Bounds_SetCoords N x.1 x.2.1 x.2.2.1⟩
theorem gogeom_Bounds_SetCoords_s (N : Nat) : (gogeom_Bounds_SetCoords_con N).Sound Try.prog :=
  Con2.sound_of (c := gogeom_Bounds_SetCoords_con N) (E := (gogeom_Bounds_SetCoords_E N)) (idle := []) Try.func51 (by kernel_rfl) (by kernel_rfl) ⟨(allCons (gogeom_Layout_Stride_s N) (allCons (math_Min_s N) (allCons (math_Max_s N) allNil))), allNil⟩ allNil (fun x y h => (gogeom_Bounds_SetCoords_t N x.1 x.2.1 x.2.2.1).trans h)
/-- pub-orthodrome/pub/gogeom.DoorBoundsParts -/
noncomputable def gogeom_DoorBoundsParts_b_E (N : Nat) : Env := ⟨Try.prog, N, [], [(0, ⟨[], [], [0], [1000000, 1000001, 1000002], none⟩), (1, ⟨[], [], [0], [1000000, 1000001, 1000002], none⟩)], kdL [], []⟩
def gogeom_DoorBoundsParts_b_g (N : Nat) (v1 : (Int × (List Nat) × (List Nat) × Unit)) : Option ((Int × (List Nat) × (List Nat) × (Int × (List Nat) × (List Nat) × Unit) × Unit)) :=
  (some (v1.1, v1.2.1, v1.2.2.1, (v1.1, v1.2.1, v1.2.2.1, ()), ()))
def gogeom_DoorBoundsParts_b (N : Nat) (v1 : (Int × (List Nat) × (List Nat) × Unit)) : Option ((Int × (List Nat) × (List Nat) × (Int × (List Nat) × (List Nat) × Unit) × Unit)) :=
  gogeom_DoorBoundsParts_b_g N v1
set_option maxRecDepth 100000
theorem gogeom_DoorBoundsParts_b_t (N : Nat) (v1 : (Int × (List Nat) × (List Nat) × Unit)) : evF2 (gogeom_DoorBoundsParts_b_E N) [] Try.f88 [.box [.k (.int .i64), .row 35 .float, .row 35 .float]] [⟨[.k (.int .i64), .k (.list .float), .k (.list .float)], [some (.box [.k (.int .i64), .k (.list .float), .k (.list .float)])]⟩] (v1, ()) = gogeom_DoorBoundsParts_b N v1 := by
  exact (show evF2 (gogeom_DoorBoundsParts_b_E N) [] Try.f88 [.box [.k (.int .i64), .row 35 .float, .row 35 .float]] [⟨[.k (.int .i64), .k (.list .float), .k (.list .float)], [some (.box [.k (.int .i64), .k (.list .float), .k (.list .float)])]⟩] (v1, ()) = gogeom_DoorBoundsParts_b_g N v1 from by kernel_rfl).trans (by rfl)
noncomputable def gogeom_DoorBoundsParts_b_con (N : Nat) : Con2 := ⟨88, [.box [.k (.int .i64), .row 35 .float, .row 35 .float]], [⟨[.k (.int .i64), .k (.list .float), .k (.list .float)], [some (.box [.k (.int .i64), .k (.list .float), .k (.list .float)])]⟩], fun x => gogeom_DoorBoundsParts_b N x.1⟩
theorem gogeom_DoorBoundsParts_b_s (N : Nat) : (gogeom_DoorBoundsParts_b_con N).Sound Try.prog :=
  Con2.sound_of (c := gogeom_DoorBoundsParts_b_con N) (E := (gogeom_DoorBoundsParts_b_E N)) (idle := []) Try.func88 (by kernel_rfl) (by kernel_rfl) ⟨allNil, allNil⟩ allNil (fun x y h => (gogeom_DoorBoundsParts_b_t N x.1).trans h)
/-- pub-orthodrome/impl.plainBox -/
noncomputable def impl_plainBox_E (N : Nat) : Env := ⟨Try.prog, N, [], [(0, ⟨[], [], [0], [1000000, 1000001, 1000002], none⟩), (1, ⟨[], [], [0, 2], [2, 1000000, 1000001, 1000002], none⟩), (2, ⟨[], [], [2, 3, 4, 5], [2, 1000000], none⟩)], kdL [], [gogeom_DoorBoundsParts_b_con N, impl_floats_con N]⟩
def impl_plainBox_g (N : Nat) (v1 : (Int × (List Nat) × (List Nat) × Unit)) : Option (((Int × (List Nat) × (List Nat) × Unit) × (Int × (List Nat) × (List Nat) × Unit) × Unit)) :=
  ((gogeom_DoorBoundsParts_b N (v1.1, v1.2.1, v1.2.2.1, ())).bind fun v2 => ((impl_floats N v2.2.1).bind fun v3 => (impl_floats N v2.2.2.1).bind fun v4 => (some ((v2.1, v3.1, v4.1, ()), (v2.2.2.2.1.1, v2.2.2.2.1.2.1, v2.2.2.2.1.2.2.1, ()), ()))))
def impl_plainBox (N : Nat) (v1 : (Int × (List Nat) × (List Nat) × Unit)) : Option (((Int × (List Nat) × (List Nat) × Unit) × (Int × (List Nat) × (List Nat) × Unit) × Unit)) :=
  impl_plainBox_g N v1
set_option maxRecDepth 100000
theorem impl_plainBox_t (N : Nat) (v1 : (Int × (List Nat) × (List Nat) × Unit)) : evF2 (impl_plainBox_E N) [] Try.f49 [.box [.k (.int .i64), .row 35 .float, .row 35 .float]] [⟨[.agg [.k (.int .i64), .row 35 .float, .row 35 .float]], [some (.box [.k (.int .i64), .k (.list .float), .k (.list .float)])]⟩] (v1, ()) = impl_plainBox N v1 := by
  exact (show evF2 (impl_plainBox_E N) [] Try.f49 [.box [.k (.int .i64), .row 35 .float, .row 35 .float]] [⟨[.agg [.k (.int .i64), .row 35 .float, .row 35 .float]], [some (.box [.k (.int .i64), .k (.list .float), .k (.list .float)])]⟩] (v1, ()) = impl_plainBox_g N v1 from by kernel_rfl).trans (by rfl)
noncomputable def impl_plainBox_con (N : Nat) : Con2 := ⟨49, [.box [.k (.int .i64), .row 35 .float, .row 35 .float]], [⟨[.agg [.k (.int .i64), .row 35 .float, .row 35 .float]], [some (.box [.k (.int .i64), .k (.list .float), .k (.list .float)])]⟩], fun x => impl_plainBox N x.1⟩
theorem impl_plainBox_s (N : Nat) : (impl_plainBox_con N).Sound Try.prog :=
  Con2.sound_of (c := impl_plainBox_con N) (E := (impl_plainBox_E N)) (idle := []) Try.func49 (by kernel_rfl) (by kernel_rfl) ⟨allNil, (allCons (gogeom_DoorBoundsParts_b_s N) (allCons (impl_floats_s N) allNil))⟩ allNil (fun x y h => (impl_plainBox_t N x.1).trans h)
/-- pub-orthodrome/impl.BoxSetCoords -/
noncomputable def impl_BoxSetCoords_E (N : Nat) : Env := ⟨Try.prog, N, [], [(0, ⟨[], [], [0, 1, 2], [], none⟩), (1, ⟨[], [], [1, 2, 3, 6, 7], [3, 6, 7], none⟩), (2, ⟨[], [], [1, 2, 3, 6, 7], [3, 6, 7], none⟩)], kdL [], [impl_box_con N, gogeom_Bounds_SetCoords_con N, impl_plainBox_con N]⟩
def impl_BoxSetCoords_g (N : Nat) (v1 : (Int × ((List Nat) × ((List Nat) × Unit)))) (v2 : (List Nat)) (v3 : (List Nat)) : Option (((Int × (List Nat) × (List Nat) × Unit) × Bool × Unit)) :=
  ((impl_box N (v1.1, v1.2.1, v1.2.2.1, ())).bind fun v4 => (gogeom_Bounds_SetCoords N (v4.1.1, v4.1.2.1, v4.1.2.2.1, ()) v2 v3).bind fun v5 => (impl_plainBox N (v5.2.1.1, v5.2.1.2.1, v5.2.1.2.2.1, ())).bind fun v6 => (some ((v6.1.1, v6.1.2.1, v6.1.2.2.1, ()), true, ())))
def impl_BoxSetCoords (N : Nat) (v1 : (Int × ((List Nat) × ((List Nat) × Unit)))) (v2 : (List Nat)) (v3 : (List Nat)) : Option (((Int × (List Nat) × (List Nat) × Unit) × Bool × Unit)) :=
  impl_BoxSetCoords_g N v1 v2 v3
set_option maxRecDepth 100000
theorem impl_BoxSetCoords_t (N : Nat) (v1 : (Int × ((List Nat) × ((List Nat) × Unit)))) (v2 : (List Nat)) (v3 : (List Nat)) : evF2 (impl_BoxSetCoords_E N) [48] Try.f18 [.k (.pair (.int .i64) (.pair (.list .float) (.pair (.list .float) .unit))), .k (.list .float), .k (.list .float)] [⟨[.agg [.k (.int .i64), .row 35 .float, .row 35 .float], .k .bool], [none, none, none]⟩] (v1, v2, v3, ()) = impl_BoxSetCoords N v1 v2 v3 := by
  exact (show evF2 (impl_BoxSetCoords_E N) [48] Try.f18 [.k (.pair (.int .i64) (.pair (.list .float) (.pair (.list .float) .unit))), .k (.list .float), .k (.list .float)] [⟨[.agg [.k (.int .i64), .row 35 .float, .row 35 .float], .k .bool], [none, none, none]⟩] (v1, v2, v3, ()) = impl_BoxSetCoords_g N v1 v2 v3 from by kernel_rfl).trans (by rfl)
noncomputable def impl_BoxSetCoords_con (N : Nat) : Con2 := ⟨18, [.k (.pair (.int .i64) (.pair (.list .float) (.pair (.list .float) .unit))), .k (.list .float), .k (.list .float)], [⟨[.agg [.k (.int .i64), .row 35 .float, .row 35 .float], .k .bool], [none, none, none]⟩], fun x => impl_BoxSetCoords N x.1 x.2.1 x.2.2.1⟩
theorem impl_BoxSetCoords_s (N : Nat) : (impl_BoxSetCoords_con N).Sound Try.prog :=
  Con2.sound_of (c := impl_BoxSetCoords_con N) (E := (impl_BoxSetCoords_E N)) (idle := [48]) Try.func18 (by kernel_rfl) (by kernel_rfl) ⟨allNil, (allCons (impl_box_s N) (allCons (gogeom_Bounds_SetCoords_s N) (allCons (impl_plainBox_s N) allNil)))⟩ (allCons (idle_of Try.func48 (by kernel_rfl)) allNil) (fun x y h => (impl_BoxSetCoords_t N x.1 x.2.1 x.2.2.1).trans h)
/-- pub-orthodrome/laws.FnBoxSetCoords -/
noncomputable def laws_FnBoxSetCoords_E (N : Nat) : Env := ⟨Try.prog, N, [laws_zzFits1_con N, laws_bBox_con N, laws_gCoord_con N, laws_gEach_con N, spec_SameBox_con N], [(0, ⟨[], [], [0, 1, 2], [], none⟩), (1, ⟨[], [], [1, 2, 3], [3], none⟩), (2, ⟨[], [], [1, 2, 3, 24], [3], some N⟩), (3, ⟨[], [], [1, 2, 3], [3], none⟩), (4, ⟨[], [], [1, 2, 3, 54], [3], some N⟩), (5, ⟨[], [], [1, 2, 3], [3], none⟩), (6, ⟨[], [], [1, 2, 3, 7], [3, 7], none⟩), (7, ⟨[], [(7, 1, 35, .float, 90750), (7, 2, 35, .float, 90751)], [1, 2, 3, 7, 58, 59, 60], [3, 7, 90750, 90751], none⟩), (8, ⟨[], [], [1, 2, 3, 7, 58, 59, 60], [3, 7, 90750, 90751], none⟩), (9, ⟨[], [], [1, 2, 3, 7, 8, 9, 58, 59, 60], [3, 7, 90750, 90751], none⟩), (10, ⟨[], [], [1, 2, 3, 7, 58, 59, 60], [3, 7, 74, 84], none⟩), (11, ⟨[], [], [1, 2, 3, 7], [3, 7, 90750, 90751], none⟩), (12, ⟨[], [], [7, 10, 11], [7, 10, 90750, 90751, 104600, 104601], none⟩)], kdL [(24, (.pair (.int .i64) (.pair (.list .float) (.pair (.list .float) .unit)))), (35, .float)], [impl_BoxSetCoords_con N]⟩
def laws_FnBoxSetCoords_g0 (N : Nat) (v2 : (List Nat)) (v3 : (List Nat)) (v1 : (Int × ((List Nat) × ((List Nat) × Unit)))) : Option (Bool) :=
  (some true)
def laws_FnBoxSetCoords_j0 (N : Nat) (v2 : (List Nat)) (v3 : (List Nat)) (v1 : (Int × ((List Nat) × ((List Nat) × Unit)))) : Option (Bool) :=
  gate N (laws_FnBoxSetCoords_g0 N v2 v3 v1)
def laws_FnBoxSetCoords_g1 (N : Nat) (v2 : (List Nat)) (v3 : (List Nat)) (v1 : (Int × ((List Nat) × ((List Nat) × Unit)))) : Option (Bool) :=
  (some true)
def laws_FnBoxSetCoords_j1 (N : Nat) (v2 : (List Nat)) (v3 : (List Nat)) (v1 : (Int × ((List Nat) × ((List Nat) × Unit)))) : Option (Bool) :=
  gate N (laws_FnBoxSetCoords_g1 N v2 v3 v1)
def laws_FnBoxSetCoords_g2 (N : Nat) (v2 : (List Nat)) (v3 : (List Nat)) (v1 : (Int × ((List Nat) × ((List Nat) × Unit)))) (r2 : Int → (List Nat) → (List Nat) → Option (Bool)) (v15 : Int) (v16 : (List Nat)) (v17 : (List Nat)) : Option (Bool) :=
  (bif (decide ((v15 : Int) < (v2.length : Int))) then ((nth v2 v15).bind fun v18 => ((nth v3 v15).bind fun v19 => (fmm false v18 v19).bind fun v20 => (lim ((v16.length + ([v20] : List Nat).length) * 8)).bind fun _ => (nth v3 v15).bind fun v21 => (fmm true v18 v21).bind fun v22 => (lim ((v17.length + ([v22] : List Nat).length) * 8)).bind fun _ => ((r2 (IntKind.i64.wrap (v15 + 1)) (v16 ++ ([v20] : List Nat)) (v17 ++ ([v22] : List Nat)))))) else ((impl_BoxSetCoords N (v1.1, v1.2.1, v1.2.2.1, ()) v2 v3).bind fun v23 => (bif v23.2.1 then ((spec_SameBox N (v23.1.1, v23.1.2.1, v23.1.2.2.1, ()) (v1.1, v16, v17, ())).bind fun v24 => (some v24)) else (some false))))
def laws_FnBoxSetCoords_l2 (N : Nat) : Nat → (List Nat) → (List Nat) → (Int × ((List Nat) × ((List Nat) × Unit))) → Int → (List Nat) → (List Nat) → Option (Bool)
  | 0, _, _, _, _, _, _ => none
  | n + 1, v2, v3, v1, v15, v16, v17 => laws_FnBoxSetCoords_g2 N v2 v3 v1 (laws_FnBoxSetCoords_l2 N n v2 v3 v1) v15 v16 v17
def laws_FnBoxSetCoords_g (N : Nat) (v1 : (Int × ((List Nat) × ((List Nat) × Unit)))) (v2 : (List Nat)) (v3 : (List Nat)) (c0 : (List Nat) → (List Nat) → (Int × ((List Nat) × ((List Nat) × Unit))) → Option (Bool)) (c1 : (List Nat) → (List Nat) → (Int × ((List Nat) × ((List Nat) × Unit))) → Option (Bool)) (c2 : (List Nat) → (List Nat) → (Int × ((List Nat) × ((List Nat) × Unit))) → Int → (List Nat) → (List Nat) → Option (Bool)) : Option (Bool) :=
  ((laws_zzFits1 N (v1.1, v1.2.1, v1.2.2.1, ())).bind fun v4 => bif (!v4) then (c0 v2 v3 v1) else (bif (decide (((v2.length : Int) : Int) > 2147483647)) then (c0 v2 v3 v1) else (gate N (bif (decide (((v3.length : Int) : Int) > 2147483647)) then (some true) else ((laws_bBox N ([(v1.1, v1.2.1, v1.2.2.1, ())] : List (Int × ((List Nat) × ((List Nat) × Unit))))).bind fun v5 => bif (!v5) then (c1 v2 v3 v1) else ((laws_gCoord N v1.1 v2).bind fun v6 => bif (!v6) then (c1 v2 v3 v1) else ((laws_gCoord N v1.1 v3).bind fun v7 => bif (!v7) then (c1 v2 v3 v1) else ((laws_gEach N N (Geo.mk 0 0 0 v2 ([] : List Int) ([] : List (List Int)) ([] : List Geo))).bind fun v8 => bif (!v8) then (c1 v2 v3 v1) else ((laws_gEach N N (Geo.mk 0 0 0 v3 ([] : List Int) ([] : List (List Int)) ([] : List Geo))).bind fun v9 => (gate N (bif (!v9) then (some true) else ((c2 v2 v3 v1 0 ([] : List Nat) ([] : List Nat))))))))))))))
def laws_FnBoxSetCoords (N : Nat) (v1 : (Int × ((List Nat) × ((List Nat) × Unit)))) (v2 : (List Nat)) (v3 : (List Nat)) : Option (Bool) :=
  laws_FnBoxSetCoords_g N v1 v2 v3 (laws_FnBoxSetCoords_j0 N) (laws_FnBoxSetCoords_j1 N) (laws_FnBoxSetCoords_l2 N N)
set_option maxRecDepth 100000
noncomputable def laws_FnBoxSetCoords_e0 (N : Nat) (v2 : (List Nat)) (v3 : (List Nat)) (v1 : (Int × ((List Nat) × ((List Nat) × Unit)))) : Option (HR [.bool]) :=
  gate N (evC (laws_FnBoxSetCoords_E N) (codeAt (bodyOf Try.f3) [1, 0, 1]) ⟨[(1, .pv (.list .float) v2), (2, .pv (.list .float) v3), (3, .ref 3 0), (24, .pv .bool true)], [(3, .box [.pv (.int .i64) v1.1, .pv (.list .float) v1.2.1, .pv (.list .float) v1.2.2.1])], []⟩ (kSeq (advOf (laws_FnBoxSetCoords_E N) (codeAt (bodyOf Try.f3) [1, 1])) (evC (laws_FnBoxSetCoords_E N) (codeAt (bodyOf Try.f3) [1, 1])) (kEnd (laws_FnBoxSetCoords_E N) [] Try.f3.results.toList [.bool])))
noncomputable def laws_FnBoxSetCoords_e1 (N : Nat) (v2 : (List Nat)) (v3 : (List Nat)) (v1 : (Int × ((List Nat) × ((List Nat) × Unit)))) : Option (HR [.bool]) :=
  gate N (evC (laws_FnBoxSetCoords_E N) (codeAt (bodyOf Try.f3) [1, 1, 0, 1]) ⟨[(1, .pv (.list .float) v2), (2, .pv (.list .float) v3), (3, .ref 3 0), (54, .pv .bool true)], [(3, .box [.pv (.int .i64) v1.1, .pv (.list .float) v1.2.1, .pv (.list .float) v1.2.2.1])], []⟩ (kSeq (advOf (laws_FnBoxSetCoords_E N) (codeAt (bodyOf Try.f3) [1, 1, 1])) (evC (laws_FnBoxSetCoords_E N) (codeAt (bodyOf Try.f3) [1, 1, 1])) (kEnd (laws_FnBoxSetCoords_E N) [] Try.f3.results.toList [.bool])))
noncomputable def laws_FnBoxSetCoords_e2 (N : Nat) (n : Nat) (v2 : (List Nat)) (v3 : (List Nat)) (v1 : (Int × ((List Nat) × ((List Nat) × Unit)))) (v15 : Int) (v16 : (List Nat)) (v17 : (List Nat)) : Option (HR [.bool]) :=
  loopN (advOf (laws_FnBoxSetCoords_E N) (codeAt (bodyOf Try.f3) [1, 1, 1, 1, 0, 1, 0, 0])) (evC (laws_FnBoxSetCoords_E N) (codeAt (bodyOf Try.f3) [1, 1, 1, 1, 0, 1, 0, 0])) n ⟨[(1, .pv (.list .float) v2), (2, .pv (.list .float) v3), (3, .ref 3 0), (7, .ref 7 0), (58, .pv (.list .float) v2), (59, .pv (.int .i64) (v2.length : Int)), (60, .pv (.int .i64) v15)], [(3, .box [.pv (.int .i64) v1.1, .pv (.list .float) v1.2.1, .pv (.list .float) v1.2.2.1]), (7, .box [.pv (.int .i64) v1.1, .own .float 90750, .own .float 90751]), (90750, .arr 35 .float v16), (90751, .arr 35 .float v17)], []⟩ (kBlock 0 (kSeq (advOf (laws_FnBoxSetCoords_E N) (codeAt (bodyOf Try.f3) [1, 1, 1, 1, 1])) (evC (laws_FnBoxSetCoords_E N) (codeAt (bodyOf Try.f3) [1, 1, 1, 1, 1])) (kEnd (laws_FnBoxSetCoords_E N) [] Try.f3.results.toList [.bool])))
theorem laws_FnBoxSetCoords_t0 (N : Nat) (v2 : (List Nat)) (v3 : (List Nat)) (v1 : (Int × ((List Nat) × ((List Nat) × Unit)))) : laws_FnBoxSetCoords_e0 N v2 v3 v1 = laws_FnBoxSetCoords_j0 N v2 v3 v1 := by
  exact (congrArg (gate N) (show evC (laws_FnBoxSetCoords_E N) (codeAt (bodyOf Try.f3) [1, 0, 1]) ⟨[(1, .pv (.list .float) v2), (2, .pv (.list .float) v3), (3, .ref 3 0), (24, .pv .bool true)], [(3, .box [.pv (.int .i64) v1.1, .pv (.list .float) v1.2.1, .pv (.list .float) v1.2.2.1])], []⟩ (kSeq (advOf (laws_FnBoxSetCoords_E N) (codeAt (bodyOf Try.f3) [1, 1])) (evC (laws_FnBoxSetCoords_E N) (codeAt (bodyOf Try.f3) [1, 1])) (kEnd (laws_FnBoxSetCoords_E N) [] Try.f3.results.toList [.bool])) = laws_FnBoxSetCoords_g0 N v2 v3 v1 from by kernel_rfl)).trans (by rfl)
theorem laws_FnBoxSetCoords_t1 (N : Nat) (v2 : (List Nat)) (v3 : (List Nat)) (v1 : (Int × ((List Nat) × ((List Nat) × Unit)))) : laws_FnBoxSetCoords_e1 N v2 v3 v1 = laws_FnBoxSetCoords_j1 N v2 v3 v1 := by
  exact (congrArg (gate N) (show evC (laws_FnBoxSetCoords_E N) (codeAt (bodyOf Try.f3) [1, 1, 0, 1]) ⟨[(1, .pv (.list .float) v2), (2, .pv (.list .float) v3), (3, .ref 3 0), (54, .pv .bool true)], [(3, .box [.pv (.int .i64) v1.1, .pv (.list .float) v1.2.1, .pv (.list .float) v1.2.2.1])], []⟩ (kSeq (advOf (laws_FnBoxSetCoords_E N) (codeAt (bodyOf Try.f3) [1, 1, 1])) (evC (laws_FnBoxSetCoords_E N) (codeAt (bodyOf Try.f3) [1, 1, 1])) (kEnd (laws_FnBoxSetCoords_E N) [] Try.f3.results.toList [.bool])) = laws_FnBoxSetCoords_g1 N v2 v3 v1 from by kernel_rfl)).trans (by rfl)
theorem laws_FnBoxSetCoords_t2 (N : Nat) : ∀ (n : Nat) (v2 : (List Nat)) (v3 : (List Nat)) (v1 : (Int × ((List Nat) × ((List Nat) × Unit)))) (v15 : Int) (v16 : (List Nat)) (v17 : (List Nat)), laws_FnBoxSetCoords_e2 N n v2 v3 v1 v15 v16 v17 = laws_FnBoxSetCoords_l2 N n v2 v3 v1 v15 v16 v17
  | 0, _, _, _, _, _, _ => rfl
  | n + 1, v2, v3, v1, v15, v16, v17 => by
    have h : laws_FnBoxSetCoords_e2 N n v2 v3 v1 = laws_FnBoxSetCoords_l2 N n v2 v3 v1 := by funext v15 v16 v17; exact laws_FnBoxSetCoords_t2 N n v2 v3 v1 v15 v16 v17
    exact (show laws_FnBoxSetCoords_e2 N (n + 1) v2 v3 v1 v15 v16 v17 = laws_FnBoxSetCoords_g2 N v2 v3 v1 (laws_FnBoxSetCoords_e2 N n v2 v3 v1) v15 v16 v17 from by kernel_rfl).trans (by rw [h]; rfl)
theorem laws_FnBoxSetCoords_t (N : Nat) (v1 : (Int × ((List Nat) × ((List Nat) × Unit)))) (v2 : (List Nat)) (v3 : (List Nat)) : evF (laws_FnBoxSetCoords_E N) [] Try.f3 [.k (.pair (.int .i64) (.pair (.list .float) (.pair (.list .float) .unit))), .k (.list .float), .k (.list .float)] [.bool] (v1, v2, v3, ()) = laws_FnBoxSetCoords N v1 v2 v3 := by
  have h0 : (laws_FnBoxSetCoords_e0 N) = (laws_FnBoxSetCoords_j0 N) := by funext v2 v3 v1; exact laws_FnBoxSetCoords_t0 N v2 v3 v1
  have h1 : (laws_FnBoxSetCoords_e1 N) = (laws_FnBoxSetCoords_j1 N) := by funext v2 v3 v1; exact laws_FnBoxSetCoords_t1 N v2 v3 v1
  have h2 : (laws_FnBoxSetCoords_e2 N N) = (laws_FnBoxSetCoords_l2 N N) := by funext v2 v3 v1 v15 v16 v17; exact laws_FnBoxSetCoords_t2 N N v2 v3 v1 v15 v16 v17
  exact (show evF (laws_FnBoxSetCoords_E N) [] Try.f3 [.k (.pair (.int .i64) (.pair (.list .float) (.pair (.list .float) .unit))), .k (.list .float), .k (.list .float)] [.bool] (v1, v2, v3, ()) = laws_FnBoxSetCoords_g N v1 v2 v3 (laws_FnBoxSetCoords_e0 N) (laws_FnBoxSetCoords_e1 N) (laws_FnBoxSetCoords_e2 N N) from by kernel_rfl).trans (by rw [h0, h1, h2]; rfl)
noncomputable def laws_FnBoxSetCoords_con (N : Nat) : Con := ⟨3, [.k (.pair (.int .i64) (.pair (.list .float) (.pair (.list .float) .unit))), .k (.list .float), .k (.list .float)], [.bool], fun x => laws_FnBoxSetCoords N x.1 x.2.1 x.2.2.1⟩
theorem laws_FnBoxSetCoords_s (N : Nat) : (laws_FnBoxSetCoords_con N).Sound Try.prog :=
  Con.sound_of (c := laws_FnBoxSetCoords_con N) (E := (laws_FnBoxSetCoords_E N)) (idle := []) Try.func3 (by kernel_rfl) (by kernel_rfl) ⟨(allCons (laws_zzFits1_s N) (allCons (laws_bBox_s N) (allCons (laws_gCoord_s N) (allCons (laws_gEach_s N) (allCons (spec_SameBox_s N) allNil))))), (allCons (impl_BoxSetCoords_s N) allNil)⟩ allNil (fun x y h => (laws_FnBoxSetCoords_t N x.1 x.2.1 x.2.2.1).trans h)
end Go.Proofs.Ytfhplocmlmmnoaa.G3
