import Derived.Test.YtfhplocmlmmnoaaProg
import Derived.Test.YtfhplocmlmmnoaaAv16
import Derived.Test.YtfhplocmlmmnoaaAv19
import Derived.Test.YtfhplocmlmmnoaaAv20
import Derived.Test.YtfhplocmlmmnoaaAv21
import Derived.Test.YtfhplocmlmmnoaaAv25
import Derived.KernelRfl
set_option linter.unusedVariables false
namespace Go.Proofs.Ytfhplocmlmmnoaa.G11
open Go Go.Av
/-- pub-orthodrome/laws.zzFits1 -/
noncomputable def laws_zzFits1_E (N : Nat) : Env := ⟨Try.prog, N, [], [(0, ⟨[], [], [0], [], none⟩), (1, ⟨[], [], [1], [1], none⟩), (2, ⟨[], [], [1, 6], [1], none⟩), (3, ⟨[], [], [1], [1], none⟩), (4, ⟨[], [], [10], [], none⟩), (5, ⟨[], [], [], [], none⟩)], kdL [], []⟩
def laws_zzFits1_g (N : Nat) (v1 : (Int × ((List Nat) × ((List Nat) × Unit)))) : Option (Bool) :=
  (bif (decide (((v1.2.1.length : Int) : Int) > 2147483647)) then (some false) else (bif (decide (((v1.2.2.1.length : Int) : Int) > 2147483647)) then (some false) else (some true)))
def laws_zzFits1 (N : Nat) (v1 : (Int × ((List Nat) × ((List Nat) × Unit)))) : Option (Bool) :=
  laws_zzFits1_g N v1
set_option maxRecDepth 100000
theorem laws_zzFits1_t (N : Nat) (v1 : (Int × ((List Nat) × ((List Nat) × Unit)))) : evF (laws_zzFits1_E N) [] Try.f13 [.k (.pair (.int .i64) (.pair (.list .float) (.pair (.list .float) .unit)))] [.bool] (v1, ()) = laws_zzFits1 N v1 := by
  exact (show evF (laws_zzFits1_E N) [] Try.f13 [.k (.pair (.int .i64) (.pair (.list .float) (.pair (.list .float) .unit)))] [.bool] (v1, ()) = laws_zzFits1_g N v1 from by kernel_rfl).trans (by rfl)
noncomputable def laws_zzFits1_con (N : Nat) : Con := ⟨13, [.k (.pair (.int .i64) (.pair (.list .float) (.pair (.list .float) .unit)))], [.bool], fun x => laws_zzFits1 N x.1⟩
theorem laws_zzFits1_s (N : Nat) : (laws_zzFits1_con N).Sound Try.prog :=
  Con.sound_of (c := laws_zzFits1_con N) (E := (laws_zzFits1_E N)) (idle := []) Try.func13 (by kernel_rfl) (by kernel_rfl) ⟨allNil, allNil⟩ allNil (fun x y h => (laws_zzFits1_t N x.1).trans h)
/-- pub-orthodrome/spec.Stride -/
noncomputable def spec_Stride_E (N : Nat) : Env := ⟨Try.prog, N, [], [(0, ⟨[], [], [0], [], none⟩), (1, ⟨[], [], [0], [], none⟩), (2, ⟨[], [], [0, 3], [], none⟩), (4, ⟨[], [], [0, 6], [], none⟩), (6, ⟨[], [], [0, 9], [], none⟩), (7, ⟨[], [], [0], [], none⟩)], kdL [], []⟩
def spec_Stride_g (N : Nat) (v1 : Int) : Option (Int) :=
  (bif (decide ((v1 : Int) < 1)) then (some 0) else (bif (v1 == 1) then (some 2) else (bif (v1 == 2) then (some 3) else (bif (v1 == 3) then (some 3) else (some v1)))))
def spec_Stride (N : Nat) (v1 : Int) : Option (Int) :=
  spec_Stride_g N v1
set_option maxRecDepth 100000
theorem spec_Stride_t (N : Nat) (v1 : Int) : evF (spec_Stride_E N) [] Try.f34 [.k (.int .i64)] [(.int .i64)] (v1, ()) = spec_Stride N v1 := by
  exact (show evF (spec_Stride_E N) [] Try.f34 [.k (.int .i64)] [(.int .i64)] (v1, ()) = spec_Stride_g N v1 from by kernel_rfl).trans (by rfl)
noncomputable def spec_Stride_con (N : Nat) : Con := ⟨34, [.k (.int .i64)], [(.int .i64)], fun x => spec_Stride N x.1⟩
theorem spec_Stride_s (N : Nat) : (spec_Stride_con N).Sound Try.prog :=
  Con.sound_of (c := spec_Stride_con N) (E := (spec_Stride_E N)) (idle := []) Try.func34 (by kernel_rfl) (by kernel_rfl) ⟨allNil, allNil⟩ allNil (fun x y h => (spec_Stride_t N x.1).trans h)
/-- pub-orthodrome/laws.gNumber -/
noncomputable def laws_gNumber_E (N : Nat) : Env := ⟨Try.prog, N, [], [(0, ⟨[], [], [0], [], none⟩), (1, ⟨[], [], [0], [], none⟩)], kdL [], []⟩
def laws_gNumber_g (N : Nat) (v1 : Nat) : Option (Bool) :=
  (some (feq v1 v1))
def laws_gNumber (N : Nat) (v1 : Nat) : Option (Bool) :=
  laws_gNumber_g N v1
set_option maxRecDepth 100000
theorem laws_gNumber_t (N : Nat) (v1 : Nat) : evF (laws_gNumber_E N) [] Try.f17 [.k .float] [.bool] (v1, ()) = laws_gNumber N v1 := by
  exact (show evF (laws_gNumber_E N) [] Try.f17 [.k .float] [.bool] (v1, ()) = laws_gNumber_g N v1 from by kernel_rfl).trans (by rfl)
noncomputable def laws_gNumber_con (N : Nat) : Con := ⟨17, [.k .float], [.bool], fun x => laws_gNumber N x.1⟩
theorem laws_gNumber_s (N : Nat) : (laws_gNumber_con N).Sound Try.prog :=
  Con.sound_of (c := laws_gNumber_con N) (E := (laws_gNumber_E N)) (idle := []) Try.func17 (by kernel_rfl) (by kernel_rfl) ⟨allNil, allNil⟩ allNil (fun x y h => (laws_gNumber_t N x.1).trans h)
/-- pub-orthodrome/laws.bBox -/
noncomputable def laws_bBox_E (N : Nat) : Env := ⟨Try.prog, N, [spec_Stride_con N, laws_gNumber_con N], [(0, ⟨[], [], [0], [], none⟩), (1, ⟨[], [], [0], [], none⟩), (2, ⟨[], [], [6, 7, 8], [], none⟩), (3, ⟨[], [], [6, 7, 8], [], none⟩), (4, ⟨[], [], [4, 6, 7, 8], [4], none⟩), (5, ⟨[], [], [4, 6, 7, 8, 37], [4], some N⟩), (6, ⟨[], [], [4, 6, 7, 8], [4], none⟩), (7, ⟨[], [], [4, 6, 7, 8, 40, 41], [4], none⟩), (8, ⟨[], [], [4, 6, 7, 8, 40, 41], [4], none⟩), (9, ⟨[], [], [4, 5, 6, 7, 8, 40, 41], [4], none⟩), (10, ⟨[], [], [4, 6, 7, 8, 40, 41, 59], [4], none⟩), (11, ⟨[], [], [4, 6, 7, 8, 40, 41], [4], none⟩), (12, ⟨[], [], [6, 7, 8], [], none⟩), (13, ⟨[], [], [], [], none⟩)], kdL [], []⟩
def laws_bBox_g1 (N : Nat) (v1 : (List (Int × ((List Nat) × ((List Nat) × Unit))))) (v13 : Int) (v14 : (Int × ((List Nat) × ((List Nat) × Unit)))) (r0 : Int → Option (Bool)) : Option (Bool) :=
  (some false)
def laws_bBox_j1 (N : Nat) (r0 : Int → Option (Bool)) (v1 : (List (Int × ((List Nat) × ((List Nat) × Unit))))) (v13 : Int) (v14 : (Int × ((List Nat) × ((List Nat) × Unit)))) : Option (Bool) :=
  gate N (laws_bBox_g1 N v1 v13 v14 r0)
def laws_bBox_g2 (N : Nat) (v1 : (List (Int × ((List Nat) × ((List Nat) × Unit))))) (v13 : Int) (v14 : (Int × ((List Nat) × ((List Nat) × Unit)))) (r2 : Int → Option (Bool)) (r0 : Int → Option (Bool)) (v20 : Int) : Option (Bool) :=
  (bif (decide ((v20 : Int) < (v14.2.1.length : Int))) then ((nth v14.2.1 v20).bind fun v21 => (laws_gNumber N v21).bind fun v22 => bif (!v22) then (some false) else ((nth v14.2.2.1 v20).bind fun v23 => (laws_gNumber N v23).bind fun v24 => (bif (!v24) then (some false) else ((r2 (IntKind.i64.wrap (v20 + 1))))))) else ((r0 (IntKind.i64.wrap (v13 + 1)))))
def laws_bBox_l2 (N : Nat) (r0 : Int → Option (Bool)) (v1 : (List (Int × ((List Nat) × ((List Nat) × Unit))))) : Nat → Int → (Int × ((List Nat) × ((List Nat) × Unit))) → Int → Option (Bool)
  | 0, _, _, _ => none
  | n + 1, v13, v14, v20 => laws_bBox_g2 N v1 v13 v14 (laws_bBox_l2 N r0 v1 n v13 v14) r0 v20
def laws_bBox_g0 (N : Nat) (v1 : (List (Int × ((List Nat) × ((List Nat) × Unit))))) (c1 : Int → (Int × ((List Nat) × ((List Nat) × Unit))) → Option (Bool)) (c2 : Int → (Int × ((List Nat) × ((List Nat) × Unit))) → Int → Option (Bool)) (r0 : Int → Option (Bool)) (v13 : Int) : Option (Bool) :=
  (bif (decide ((v13 : Int) < (v1.length : Int))) then ((nth v1 v13).bind fun v14 => (bif (decide ((v14.1 : Int) < 0)) then (c1 v13 v14) else (bif (decide ((v14.1 : Int) > 9)) then (c1 v13 v14) else ((spec_Stride N v14.1).bind fun v15 => bif ((v14.2.1.length : Int) != v15) then (c1 v13 v14) else (gate N (bif ((v14.2.2.1.length : Int) != (v14.2.1.length : Int)) then (some false) else ((c2 v13 v14 0)))))))) else (some true))
def laws_bBox_l0 (N : Nat) : Nat → (List (Int × ((List Nat) × ((List Nat) × Unit)))) → Int → Option (Bool)
  | 0, _, _ => none
  | n + 1, v1, v13 => laws_bBox_g0 N v1 (laws_bBox_j1 N (laws_bBox_l0 N n v1) v1) (laws_bBox_l2 N (laws_bBox_l0 N n v1) v1 N) (laws_bBox_l0 N n v1) v13
def laws_bBox_g (N : Nat) (v1 : (List (Int × ((List Nat) × ((List Nat) × Unit))))) (c0 : (List (Int × ((List Nat) × ((List Nat) × Unit)))) → Int → Option (Bool)) : Option (Bool) :=
  ((c0 v1 0))
def laws_bBox (N : Nat) (v1 : (List (Int × ((List Nat) × ((List Nat) × Unit))))) : Option (Bool) :=
  laws_bBox_g N v1 (laws_bBox_l0 N N)
set_option maxRecDepth 100000
noncomputable def laws_bBox_e1 (N : Nat) (m0 : Nat) (v1 : (List (Int × ((List Nat) × ((List Nat) × Unit))))) (v13 : Int) (v14 : (Int × ((List Nat) × ((List Nat) × Unit)))) : Option (HR [.bool]) :=
  gate N (evC (laws_bBox_E N) (codeAt (bodyOf Try.f14) [1, 0, 1, 0, 0, 1, 1, 0, 0, 1, 0, 1]) ⟨[(4, .ref 4 0), (6, .pv (.list (.pair (.int .i64) (.pair (.list .float) (.pair (.list .float) .unit)))) v1), (7, .pv (.int .i64) (v1.length : Int)), (8, .pv (.int .i64) v13), (37, .pv .bool true)], [(4, .box [.pv (.int .i64) v14.1, .pv (.list .float) v14.2.1, .pv (.list .float) v14.2.2.1])], []⟩ (kSeq (advOf (laws_bBox_E N) (codeAt (bodyOf Try.f14) [1, 0, 1, 0, 0, 1, 1, 0, 0, 1, 1])) (evC (laws_bBox_E N) (codeAt (bodyOf Try.f14) [1, 0, 1, 0, 0, 1, 1, 0, 0, 1, 1])) (kBlock 1 (kSeq (advOf (laws_bBox_E N) (codeAt (bodyOf Try.f14) [1, 0, 1, 0, 0, 1, 1, 1])) (evC (laws_bBox_E N) (codeAt (bodyOf Try.f14) [1, 0, 1, 0, 0, 1, 1, 1])) (kSeq (advOf (laws_bBox_E N) (codeAt (bodyOf Try.f14) [1, 0, 1, 0, 0])) (fun st K => loopN (advOf (laws_bBox_E N) (codeAt (bodyOf Try.f14) [1, 0, 1, 0, 0])) (evC (laws_bBox_E N) (codeAt (bodyOf Try.f14) [1, 0, 1, 0, 0])) m0 st K) (kBlock 0 (kSeq (advOf (laws_bBox_E N) (codeAt (bodyOf Try.f14) [1, 1])) (evC (laws_bBox_E N) (codeAt (bodyOf Try.f14) [1, 1])) (kEnd (laws_bBox_E N) [] Try.f14.results.toList [.bool]))))))))
noncomputable def laws_bBox_e2 (N : Nat) (m0 : Nat) (v1 : (List (Int × ((List Nat) × ((List Nat) × Unit))))) (n : Nat) (v13 : Int) (v14 : (Int × ((List Nat) × ((List Nat) × Unit)))) (v20 : Int) : Option (HR [.bool]) :=
  loopN (advOf (laws_bBox_E N) (codeAt (bodyOf Try.f14) [1, 0, 1, 0, 0, 1, 1, 0, 0, 1, 1, 1, 0, 0])) (evC (laws_bBox_E N) (codeAt (bodyOf Try.f14) [1, 0, 1, 0, 0, 1, 1, 0, 0, 1, 1, 1, 0, 0])) n ⟨[(4, .ref 4 0), (6, .pv (.list (.pair (.int .i64) (.pair (.list .float) (.pair (.list .float) .unit)))) v1), (7, .pv (.int .i64) (v1.length : Int)), (8, .pv (.int .i64) v13), (40, .pv (.int .i64) (v14.2.1.length : Int)), (41, .pv (.int .i64) v20)], [(4, .box [.pv (.int .i64) v14.1, .pv (.list .float) v14.2.1, .pv (.list .float) v14.2.2.1])], []⟩ (kBlock 2 (kBlock 1 (kSeq (advOf (laws_bBox_E N) (codeAt (bodyOf Try.f14) [1, 0, 1, 0, 0, 1, 1, 1])) (evC (laws_bBox_E N) (codeAt (bodyOf Try.f14) [1, 0, 1, 0, 0, 1, 1, 1])) (kSeq (advOf (laws_bBox_E N) (codeAt (bodyOf Try.f14) [1, 0, 1, 0, 0])) (fun st K => loopN (advOf (laws_bBox_E N) (codeAt (bodyOf Try.f14) [1, 0, 1, 0, 0])) (evC (laws_bBox_E N) (codeAt (bodyOf Try.f14) [1, 0, 1, 0, 0])) m0 st K) (kBlock 0 (kSeq (advOf (laws_bBox_E N) (codeAt (bodyOf Try.f14) [1, 1])) (evC (laws_bBox_E N) (codeAt (bodyOf Try.f14) [1, 1])) (kEnd (laws_bBox_E N) [] Try.f14.results.toList [.bool])))))))
noncomputable def laws_bBox_e0 (N : Nat) (n : Nat) (v1 : (List (Int × ((List Nat) × ((List Nat) × Unit))))) (v13 : Int) : Option (HR [.bool]) :=
  loopN (advOf (laws_bBox_E N) (codeAt (bodyOf Try.f14) [1, 0, 1, 0, 0])) (evC (laws_bBox_E N) (codeAt (bodyOf Try.f14) [1, 0, 1, 0, 0])) n ⟨[(6, .pv (.list (.pair (.int .i64) (.pair (.list .float) (.pair (.list .float) .unit)))) v1), (7, .pv (.int .i64) (v1.length : Int)), (8, .pv (.int .i64) v13)], [], []⟩ (kBlock 0 (kSeq (advOf (laws_bBox_E N) (codeAt (bodyOf Try.f14) [1, 1])) (evC (laws_bBox_E N) (codeAt (bodyOf Try.f14) [1, 1])) (kEnd (laws_bBox_E N) [] Try.f14.results.toList [.bool])))
theorem laws_bBox_t1 (N : Nat) (m0 : Nat) (v1 : (List (Int × ((List Nat) × ((List Nat) × Unit))))) (v13 : Int) (v14 : (Int × ((List Nat) × ((List Nat) × Unit)))) : laws_bBox_e1 N m0 v1 v13 v14 = laws_bBox_j1 N (laws_bBox_e0 N m0 v1) v1 v13 v14 := by
  exact (congrArg (gate N) (show evC (laws_bBox_E N) (codeAt (bodyOf Try.f14) [1, 0, 1, 0, 0, 1, 1, 0, 0, 1, 0, 1]) ⟨[(4, .ref 4 0), (6, .pv (.list (.pair (.int .i64) (.pair (.list .float) (.pair (.list .float) .unit)))) v1), (7, .pv (.int .i64) (v1.length : Int)), (8, .pv (.int .i64) v13), (37, .pv .bool true)], [(4, .box [.pv (.int .i64) v14.1, .pv (.list .float) v14.2.1, .pv (.list .float) v14.2.2.1])], []⟩ (kSeq (advOf (laws_bBox_E N) (codeAt (bodyOf Try.f14) [1, 0, 1, 0, 0, 1, 1, 0, 0, 1, 1])) (evC (laws_bBox_E N) (codeAt (bodyOf Try.f14) [1, 0, 1, 0, 0, 1, 1, 0, 0, 1, 1])) (kBlock 1 (kSeq (advOf (laws_bBox_E N) (codeAt (bodyOf Try.f14) [1, 0, 1, 0, 0, 1, 1, 1])) (evC (laws_bBox_E N) (codeAt (bodyOf Try.f14) [1, 0, 1, 0, 0, 1, 1, 1])) (kSeq (advOf (laws_bBox_E N) (codeAt (bodyOf Try.f14) [1, 0, 1, 0, 0])) (fun st K => loopN (advOf (laws_bBox_E N) (codeAt (bodyOf Try.f14) [1, 0, 1, 0, 0])) (evC (laws_bBox_E N) (codeAt (bodyOf Try.f14) [1, 0, 1, 0, 0])) m0 st K) (kBlock 0 (kSeq (advOf (laws_bBox_E N) (codeAt (bodyOf Try.f14) [1, 1])) (evC (laws_bBox_E N) (codeAt (bodyOf Try.f14) [1, 1])) (kEnd (laws_bBox_E N) [] Try.f14.results.toList [.bool]))))))) = laws_bBox_g1 N v1 v13 v14 (laws_bBox_e0 N m0 v1) from by kernel_rfl)).trans (by rfl)
theorem laws_bBox_t2 (N : Nat) (m0 : Nat) (v1 : (List (Int × ((List Nat) × ((List Nat) × Unit))))) : ∀ (n : Nat) (v13 : Int) (v14 : (Int × ((List Nat) × ((List Nat) × Unit)))) (v20 : Int), laws_bBox_e2 N m0 v1 n v13 v14 v20 = laws_bBox_l2 N (laws_bBox_e0 N m0 v1) v1 n v13 v14 v20
  | 0, _, _, _ => rfl
  | n + 1, v13, v14, v20 => by
    have h : laws_bBox_e2 N m0 v1 n v13 v14 = laws_bBox_l2 N (laws_bBox_e0 N m0 v1) v1 n v13 v14 := by funext v20; exact laws_bBox_t2 N m0 v1 n v13 v14 v20
    exact (show laws_bBox_e2 N m0 v1 (n + 1) v13 v14 v20 = laws_bBox_g2 N v1 v13 v14 (laws_bBox_e2 N m0 v1 n v13 v14) (laws_bBox_e0 N m0 v1) v20 from by kernel_rfl).trans (by rw [h]; rfl)
theorem laws_bBox_t0 (N : Nat) : ∀ (n : Nat) (v1 : (List (Int × ((List Nat) × ((List Nat) × Unit))))) (v13 : Int), laws_bBox_e0 N n v1 v13 = laws_bBox_l0 N n v1 v13
  | 0, _, _ => rfl
  | n + 1, v1, v13 => by
    have h1 : (laws_bBox_e1 N n v1) = (laws_bBox_j1 N (laws_bBox_e0 N n v1) v1) := by funext v13 v14; exact laws_bBox_t1 N n v1 v13 v14
    have h2 : (laws_bBox_e2 N n v1 N) = (laws_bBox_l2 N (laws_bBox_e0 N n v1) v1 N) := by funext v13 v14 v20; exact laws_bBox_t2 N n v1 N v13 v14 v20
    have h : laws_bBox_e0 N n v1 = laws_bBox_l0 N n v1 := by funext v13; exact laws_bBox_t0 N n v1 v13
    exact (show laws_bBox_e0 N (n + 1) v1 v13 = laws_bBox_g0 N v1 (laws_bBox_e1 N n v1) (laws_bBox_e2 N n v1 N) (laws_bBox_e0 N n v1) v13 from by kernel_rfl).trans (by rw [h1, h2, h]; rfl)
theorem laws_bBox_t (N : Nat) (v1 : (List (Int × ((List Nat) × ((List Nat) × Unit))))) : evF (laws_bBox_E N) [] Try.f14 [.k (.list (.pair (.int .i64) (.pair (.list .float) (.pair (.list .float) .unit))))] [.bool] (v1, ()) = laws_bBox N v1 := by
  have h0 : (laws_bBox_e0 N N) = (laws_bBox_l0 N N) := by funext v1 v13; exact laws_bBox_t0 N N v1 v13
  exact (show evF (laws_bBox_E N) [] Try.f14 [.k (.list (.pair (.int .i64) (.pair (.list .float) (.pair (.list .float) .unit))))] [.bool] (v1, ()) = laws_bBox_g N v1 (laws_bBox_e0 N N) from by kernel_rfl).trans (by rw [h0]; rfl)
noncomputable def laws_bBox_con (N : Nat) : Con := ⟨14, [.k (.list (.pair (.int .i64) (.pair (.list .float) (.pair (.list .float) .unit))))], [.bool], fun x => laws_bBox N x.1⟩
theorem laws_bBox_s (N : Nat) : (laws_bBox_con N).Sound Try.prog :=
  Con.sound_of (c := laws_bBox_con N) (E := (laws_bBox_E N)) (idle := []) Try.func14 (by kernel_rfl) (by kernel_rfl) ⟨(allCons (spec_Stride_s N) (allCons (laws_gNumber_s N) allNil)), allNil⟩ allNil (fun x y h => (laws_bBox_t N x.1).trans h)
/-- pub-orthodrome/spec.BoxEmpty -/
noncomputable def spec_BoxEmpty_E (N : Nat) : Env := ⟨Try.prog, N, [], [(0, ⟨[], [], [0], [], none⟩), (1, ⟨[], [], [1], [1], none⟩), (2, ⟨[], [], [1, 6, 7], [1], none⟩), (3, ⟨[], [], [1, 6, 7], [1], none⟩), (4, ⟨[], [], [1, 3, 6, 7], [1], none⟩), (5, ⟨[], [], [1, 6, 7, 20], [1], none⟩), (6, ⟨[], [], [1, 6, 7], [1], none⟩), (7, ⟨[], [], [1], [1], none⟩)], kdL [], []⟩
def spec_BoxEmpty_g0 (N : Nat) (v1 : (Int × ((List Nat) × ((List Nat) × Unit)))) (r0 : Int → Option (Bool)) (v4 : Int) : Option (Bool) :=
  (bif (decide ((v4 : Int) < (v1.2.1.length : Int))) then ((nth v1.2.2.1 v4).bind fun v5 => (nth v1.2.1 v4).bind fun v6 => (bif (flt v5 v6) then (some true) else ((r0 (IntKind.i64.wrap (v4 + 1)))))) else (some (v1.1 == 0)))
def spec_BoxEmpty_l0 (N : Nat) : Nat → (Int × ((List Nat) × ((List Nat) × Unit))) → Int → Option (Bool)
  | 0, _, _ => none
  | n + 1, v1, v4 => spec_BoxEmpty_g0 N v1 (spec_BoxEmpty_l0 N n v1) v4
def spec_BoxEmpty_g (N : Nat) (v1 : (Int × ((List Nat) × ((List Nat) × Unit)))) (c0 : (Int × ((List Nat) × ((List Nat) × Unit))) → Int → Option (Bool)) : Option (Bool) :=
  ((c0 v1 0))
def spec_BoxEmpty (N : Nat) (v1 : (Int × ((List Nat) × ((List Nat) × Unit)))) : Option (Bool) :=
  spec_BoxEmpty_g N v1 (spec_BoxEmpty_l0 N N)
set_option maxRecDepth 100000
noncomputable def spec_BoxEmpty_e0 (N : Nat) (n : Nat) (v1 : (Int × ((List Nat) × ((List Nat) × Unit)))) (v4 : Int) : Option (HR [.bool]) :=
  loopN (advOf (spec_BoxEmpty_E N) (codeAt (bodyOf Try.f42) [1, 0, 1, 0, 0])) (evC (spec_BoxEmpty_E N) (codeAt (bodyOf Try.f42) [1, 0, 1, 0, 0])) n ⟨[(1, .ref 1 0), (6, .pv (.int .i64) (v1.2.1.length : Int)), (7, .pv (.int .i64) v4)], [(1, .box [.pv (.int .i64) v1.1, .pv (.list .float) v1.2.1, .pv (.list .float) v1.2.2.1])], []⟩ (kBlock 0 (kSeq (advOf (spec_BoxEmpty_E N) (codeAt (bodyOf Try.f42) [1, 1])) (evC (spec_BoxEmpty_E N) (codeAt (bodyOf Try.f42) [1, 1])) (kEnd (spec_BoxEmpty_E N) [] Try.f42.results.toList [.bool])))
theorem spec_BoxEmpty_t0 (N : Nat) : ∀ (n : Nat) (v1 : (Int × ((List Nat) × ((List Nat) × Unit)))) (v4 : Int), spec_BoxEmpty_e0 N n v1 v4 = spec_BoxEmpty_l0 N n v1 v4
  | 0, _, _ => rfl
  | n + 1, v1, v4 => by
    have h : spec_BoxEmpty_e0 N n v1 = spec_BoxEmpty_l0 N n v1 := by funext v4; exact spec_BoxEmpty_t0 N n v1 v4
    exact (show spec_BoxEmpty_e0 N (n + 1) v1 v4 = spec_BoxEmpty_g0 N v1 (spec_BoxEmpty_e0 N n v1) v4 from by kernel_rfl).trans (by rw [h]; rfl)
theorem spec_BoxEmpty_t (N : Nat) (v1 : (Int × ((List Nat) × ((List Nat) × Unit)))) : evF (spec_BoxEmpty_E N) [] Try.f42 [.k (.pair (.int .i64) (.pair (.list .float) (.pair (.list .float) .unit)))] [.bool] (v1, ()) = spec_BoxEmpty N v1 := by
  have h0 : (spec_BoxEmpty_e0 N N) = (spec_BoxEmpty_l0 N N) := by funext v1 v4; exact spec_BoxEmpty_t0 N N v1 v4
  exact (show evF (spec_BoxEmpty_E N) [] Try.f42 [.k (.pair (.int .i64) (.pair (.list .float) (.pair (.list .float) .unit)))] [.bool] (v1, ()) = spec_BoxEmpty_g N v1 (spec_BoxEmpty_e0 N N) from by kernel_rfl).trans (by rw [h0]; rfl)
noncomputable def spec_BoxEmpty_con (N : Nat) : Con := ⟨42, [.k (.pair (.int .i64) (.pair (.list .float) (.pair (.list .float) .unit)))], [.bool], fun x => spec_BoxEmpty N x.1⟩
theorem spec_BoxEmpty_s (N : Nat) : (spec_BoxEmpty_con N).Sound Try.prog :=
  Con.sound_of (c := spec_BoxEmpty_con N) (E := (spec_BoxEmpty_E N)) (idle := []) Try.func42 (by kernel_rfl) (by kernel_rfl) ⟨allNil, allNil⟩ allNil (fun x y h => (spec_BoxEmpty_t N x.1).trans h)
/-- pub-orthodrome/spec.SameBox -/
noncomputable def spec_SameBox_E (N : Nat) : Env := ⟨Try.prog, N, [], [(0, ⟨[], [], [0, 1], [], none⟩), (1, ⟨[], [], [2, 3], [2, 3], none⟩), (2, ⟨[], [], [2, 3, 37], [2, 3], some N⟩), (3, ⟨[], [], [2, 3], [2, 3], none⟩), (4, ⟨[], [], [2, 3, 40, 41], [2, 3], none⟩), (5, ⟨[], [], [2, 3, 40, 41], [2, 3], none⟩), (6, ⟨[], [], [2, 3, 5, 40, 41], [2, 3], none⟩), (7, ⟨[], [], [2, 3, 40, 41, 67], [2, 3], none⟩), (8, ⟨[], [], [2, 3, 40, 41], [2, 3], none⟩), (9, ⟨[], [], [], [], none⟩)], kdL [], []⟩
def spec_SameBox_g0 (N : Nat) (v1 : (Int × ((List Nat) × ((List Nat) × Unit)))) (v2 : (Int × ((List Nat) × ((List Nat) × Unit)))) : Option (Bool) :=
  (some false)
def spec_SameBox_j0 (N : Nat) (v1 : (Int × ((List Nat) × ((List Nat) × Unit)))) (v2 : (Int × ((List Nat) × ((List Nat) × Unit)))) : Option (Bool) :=
  gate N (spec_SameBox_g0 N v1 v2)
def spec_SameBox_g1 (N : Nat) (v1 : (Int × ((List Nat) × ((List Nat) × Unit)))) (v2 : (Int × ((List Nat) × ((List Nat) × Unit)))) (r1 : Int → Option (Bool)) (v7 : Int) : Option (Bool) :=
  (bif (decide ((v7 : Int) < (v1.2.1.length : Int))) then ((nth v1.2.1 v7).bind fun v8 => (nth v2.2.1 v7).bind fun v9 => bif (fne v8 v9) then (some false) else ((nth v1.2.2.1 v7).bind fun v10 => (nth v2.2.2.1 v7).bind fun v11 => (bif (fne v10 v11) then (some false) else ((r1 (IntKind.i64.wrap (v7 + 1))))))) else (some true))
def spec_SameBox_l1 (N : Nat) : Nat → (Int × ((List Nat) × ((List Nat) × Unit))) → (Int × ((List Nat) × ((List Nat) × Unit))) → Int → Option (Bool)
  | 0, _, _, _ => none
  | n + 1, v1, v2, v7 => spec_SameBox_g1 N v1 v2 (spec_SameBox_l1 N n v1 v2) v7
def spec_SameBox_g (N : Nat) (v1 : (Int × ((List Nat) × ((List Nat) × Unit)))) (v2 : (Int × ((List Nat) × ((List Nat) × Unit)))) (c0 : (Int × ((List Nat) × ((List Nat) × Unit))) → (Int × ((List Nat) × ((List Nat) × Unit))) → Option (Bool)) (c1 : (Int × ((List Nat) × ((List Nat) × Unit))) → (Int × ((List Nat) × ((List Nat) × Unit))) → Int → Option (Bool)) : Option (Bool) :=
  (bif (v1.1 != v2.1) then (c0 v1 v2) else (bif ((v1.2.1.length : Int) != (v2.2.1.length : Int)) then (c0 v1 v2) else (bif ((v1.2.2.1.length : Int) != (v2.2.2.1.length : Int)) then (c0 v1 v2) else (gate N (bif ((v1.2.1.length : Int) != (v1.2.2.1.length : Int)) then (some false) else ((c1 v1 v2 0)))))))
def spec_SameBox (N : Nat) (v1 : (Int × ((List Nat) × ((List Nat) × Unit)))) (v2 : (Int × ((List Nat) × ((List Nat) × Unit)))) : Option (Bool) :=
  spec_SameBox_g N v1 v2 (spec_SameBox_j0 N) (spec_SameBox_l1 N N)
set_option maxRecDepth 100000
noncomputable def spec_SameBox_e0 (N : Nat) (v1 : (Int × ((List Nat) × ((List Nat) × Unit)))) (v2 : (Int × ((List Nat) × ((List Nat) × Unit)))) : Option (HR [.bool]) :=
  gate N (evC (spec_SameBox_E N) (codeAt (bodyOf Try.f19) [1, 0, 1]) ⟨[(2, .ref 2 0), (3, .ref 3 0), (37, .pv .bool true)], [(2, .box [.pv (.int .i64) v1.1, .pv (.list .float) v1.2.1, .pv (.list .float) v1.2.2.1]), (3, .box [.pv (.int .i64) v2.1, .pv (.list .float) v2.2.1, .pv (.list .float) v2.2.2.1])], []⟩ (kSeq (advOf (spec_SameBox_E N) (codeAt (bodyOf Try.f19) [1, 1])) (evC (spec_SameBox_E N) (codeAt (bodyOf Try.f19) [1, 1])) (kEnd (spec_SameBox_E N) [] Try.f19.results.toList [.bool])))
noncomputable def spec_SameBox_e1 (N : Nat) (n : Nat) (v1 : (Int × ((List Nat) × ((List Nat) × Unit)))) (v2 : (Int × ((List Nat) × ((List Nat) × Unit)))) (v7 : Int) : Option (HR [.bool]) :=
  loopN (advOf (spec_SameBox_E N) (codeAt (bodyOf Try.f19) [1, 1, 0, 1, 0, 0])) (evC (spec_SameBox_E N) (codeAt (bodyOf Try.f19) [1, 1, 0, 1, 0, 0])) n ⟨[(2, .ref 2 0), (3, .ref 3 0), (40, .pv (.int .i64) (v1.2.1.length : Int)), (41, .pv (.int .i64) v7)], [(2, .box [.pv (.int .i64) v1.1, .pv (.list .float) v1.2.1, .pv (.list .float) v1.2.2.1]), (3, .box [.pv (.int .i64) v2.1, .pv (.list .float) v2.2.1, .pv (.list .float) v2.2.2.1])], []⟩ (kBlock 0 (kSeq (advOf (spec_SameBox_E N) (codeAt (bodyOf Try.f19) [1, 1, 1])) (evC (spec_SameBox_E N) (codeAt (bodyOf Try.f19) [1, 1, 1])) (kEnd (spec_SameBox_E N) [] Try.f19.results.toList [.bool])))
theorem spec_SameBox_t0 (N : Nat) (v1 : (Int × ((List Nat) × ((List Nat) × Unit)))) (v2 : (Int × ((List Nat) × ((List Nat) × Unit)))) : spec_SameBox_e0 N v1 v2 = spec_SameBox_j0 N v1 v2 := by
  exact (congrArg (gate N) (show evC (spec_SameBox_E N) (codeAt (bodyOf Try.f19) [1, 0, 1]) ⟨[(2, .ref 2 0), (3, .ref 3 0), (37, .pv .bool true)], [(2, .box [.pv (.int .i64) v1.1, .pv (.list .float) v1.2.1, .pv (.list .float) v1.2.2.1]), (3, .box [.pv (.int .i64) v2.1, .pv (.list .float) v2.2.1, .pv (.list .float) v2.2.2.1])], []⟩ (kSeq (advOf (spec_SameBox_E N) (codeAt (bodyOf Try.f19) [1, 1])) (evC (spec_SameBox_E N) (codeAt (bodyOf Try.f19) [1, 1])) (kEnd (spec_SameBox_E N) [] Try.f19.results.toList [.bool])) = spec_SameBox_g0 N v1 v2 from by kernel_rfl)).trans (by rfl)
theorem spec_SameBox_t1 (N : Nat) : ∀ (n : Nat) (v1 : (Int × ((List Nat) × ((List Nat) × Unit)))) (v2 : (Int × ((List Nat) × ((List Nat) × Unit)))) (v7 : Int), spec_SameBox_e1 N n v1 v2 v7 = spec_SameBox_l1 N n v1 v2 v7
  | 0, _, _, _ => rfl
  | n + 1, v1, v2, v7 => by
    have h : spec_SameBox_e1 N n v1 v2 = spec_SameBox_l1 N n v1 v2 := by funext v7; exact spec_SameBox_t1 N n v1 v2 v7
    exact (show spec_SameBox_e1 N (n + 1) v1 v2 v7 = spec_SameBox_g1 N v1 v2 (spec_SameBox_e1 N n v1 v2) v7 from by kernel_rfl).trans (by rw [h]; rfl)
theorem spec_SameBox_t (N : Nat) (v1 : (Int × ((List Nat) × ((List Nat) × Unit)))) (v2 : (Int × ((List Nat) × ((List Nat) × Unit)))) : evF (spec_SameBox_E N) [] Try.f19 [.k (.pair (.int .i64) (.pair (.list .float) (.pair (.list .float) .unit))), .k (.pair (.int .i64) (.pair (.list .float) (.pair (.list .float) .unit)))] [.bool] (v1, v2, ()) = spec_SameBox N v1 v2 := by
  have h0 : (spec_SameBox_e0 N) = (spec_SameBox_j0 N) := by funext v1 v2; exact spec_SameBox_t0 N v1 v2
  have h1 : (spec_SameBox_e1 N N) = (spec_SameBox_l1 N N) := by funext v1 v2 v7; exact spec_SameBox_t1 N N v1 v2 v7
  exact (show evF (spec_SameBox_E N) [] Try.f19 [.k (.pair (.int .i64) (.pair (.list .float) (.pair (.list .float) .unit))), .k (.pair (.int .i64) (.pair (.list .float) (.pair (.list .float) .unit)))] [.bool] (v1, v2, ()) = spec_SameBox_g N v1 v2 (spec_SameBox_e0 N) (spec_SameBox_e1 N N) from by kernel_rfl).trans (by rw [h0, h1]; rfl)
noncomputable def spec_SameBox_con (N : Nat) : Con := ⟨19, [.k (.pair (.int .i64) (.pair (.list .float) (.pair (.list .float) .unit))), .k (.pair (.int .i64) (.pair (.list .float) (.pair (.list .float) .unit)))], [.bool], fun x => spec_SameBox N x.1 x.2.1⟩
theorem spec_SameBox_s (N : Nat) : (spec_SameBox_con N).Sound Try.prog :=
  Con.sound_of (c := spec_SameBox_con N) (E := (spec_SameBox_E N)) (idle := []) Try.func19 (by kernel_rfl) (by kernel_rfl) ⟨allNil, allNil⟩ allNil (fun x y h => (spec_SameBox_t N x.1 x.2.1).trans h)
/-- pub-orthodrome/impl.floats -/
noncomputable def impl_floats_E (N : Nat) : Env := ⟨Try.prog, N, [], [(0, ⟨[], [], [0], [], none⟩), (1, ⟨[], [], [0], [], none⟩)], kdL [(35, .float)], []⟩
def impl_floats_g (N : Nat) (v1 : (List Nat)) : Option (((List Nat) × Unit)) :=
  ((lim (v1.length * 8)).bind fun _ => (some (v1, ())))
def impl_floats (N : Nat) (v1 : (List Nat)) : Option (((List Nat) × Unit)) :=
  impl_floats_g N v1
set_option maxRecDepth 100000
theorem impl_floats_t (N : Nat) (v1 : (List Nat)) : evF2 (impl_floats_E N) [] Try.f67 [.k (.list .float)] [⟨[.row 35 .float], [none]⟩] (v1, ()) = impl_floats N v1 := by
  exact (show evF2 (impl_floats_E N) [] Try.f67 [.k (.list .float)] [⟨[.row 35 .float], [none]⟩] (v1, ()) = impl_floats_g N v1 from by kernel_rfl).trans (by rfl)
noncomputable def impl_floats_con (N : Nat) : Con2 := ⟨67, [.k (.list .float)], [⟨[.row 35 .float], [none]⟩], fun x => impl_floats N x.1⟩
theorem impl_floats_s (N : Nat) : (impl_floats_con N).Sound Try.prog :=
  Con2.sound_of (c := impl_floats_con N) (E := (impl_floats_E N)) (idle := []) Try.func67 (by kernel_rfl) (by kernel_rfl) ⟨allNil, allNil⟩ allNil (fun x y h => (impl_floats_t N x.1).trans h)
/-- pub-orthodrome/pub/gogeom.DoorBounds -/
noncomputable def gogeom_DoorBounds_b_E (N : Nat) : Env := ⟨Try.prog, N, [], [(0, ⟨[], [], [0, 1, 2], [1000000, 1000001], none⟩), (1, ⟨[], [], [0, 1, 2], [1000000, 1000001], none⟩)], kdL [], []⟩
def gogeom_DoorBounds_b_g (N : Nat) (v1 : Int) (v2 : (List Nat)) (v3 : (List Nat)) : Option (((Int × (List Nat) × (List Nat) × Unit) × Unit)) :=
  (some ((v1, v2, v3, ()), ()))
def gogeom_DoorBounds_b (N : Nat) (v1 : Int) (v2 : (List Nat)) (v3 : (List Nat)) : Option (((Int × (List Nat) × (List Nat) × Unit) × Unit)) :=
  gogeom_DoorBounds_b_g N v1 v2 v3
set_option maxRecDepth 100000
theorem gogeom_DoorBounds_b_t (N : Nat) (v1 : Int) (v2 : (List Nat)) (v3 : (List Nat)) : evF2 (gogeom_DoorBounds_b_E N) [] Try.f89 [.k (.int .i64), .row 35 .float, .row 35 .float] [⟨[.box [.k (.int .i64), .row 35 .float, .row 35 .float]], [none, none, none]⟩] (v1, v2, v3, ()) = gogeom_DoorBounds_b N v1 v2 v3 := by
  exact (show evF2 (gogeom_DoorBounds_b_E N) [] Try.f89 [.k (.int .i64), .row 35 .float, .row 35 .float] [⟨[.box [.k (.int .i64), .row 35 .float, .row 35 .float]], [none, none, none]⟩] (v1, v2, v3, ()) = gogeom_DoorBounds_b_g N v1 v2 v3 from by kernel_rfl).trans (by rfl)
noncomputable def gogeom_DoorBounds_b_con (N : Nat) : Con2 := ⟨89, [.k (.int .i64), .row 35 .float, .row 35 .float], [⟨[.box [.k (.int .i64), .row 35 .float, .row 35 .float]], [none, none, none]⟩], fun x => gogeom_DoorBounds_b N x.1 x.2.1 x.2.2.1⟩
theorem gogeom_DoorBounds_b_s (N : Nat) : (gogeom_DoorBounds_b_con N).Sound Try.prog :=
  Con2.sound_of (c := gogeom_DoorBounds_b_con N) (E := (gogeom_DoorBounds_b_E N)) (idle := []) Try.func89 (by kernel_rfl) (by kernel_rfl) ⟨allNil, allNil⟩ allNil (fun x y h => (gogeom_DoorBounds_b_t N x.1 x.2.1 x.2.2.1).trans h)
/-- pub-orthodrome/impl.box -/
noncomputable def impl_box_E (N : Nat) : Env := ⟨Try.prog, N, [], [(0, ⟨[], [], [0], [], none⟩), (1, ⟨[], [], [1], [1], none⟩)], kdL [], [impl_floats_con N, gogeom_DoorBounds_b_con N]⟩
def impl_box_g (N : Nat) (v1 : (Int × ((List Nat) × ((List Nat) × Unit)))) : Option (((Int × (List Nat) × (List Nat) × Unit) × Unit)) :=
  ((impl_floats N v1.2.1).bind fun v2 => (impl_floats N v1.2.2.1).bind fun v3 => (gogeom_DoorBounds_b N v1.1 v2.1 v3.1).bind fun v4 => (some ((v4.1.1, v4.1.2.1, v4.1.2.2.1, ()), ())))
def impl_box (N : Nat) (v1 : (Int × ((List Nat) × ((List Nat) × Unit)))) : Option (((Int × (List Nat) × (List Nat) × Unit) × Unit)) :=
  impl_box_g N v1
set_option maxRecDepth 100000
theorem impl_box_t (N : Nat) (v1 : (Int × ((List Nat) × ((List Nat) × Unit)))) : evF2 (impl_box_E N) [] Try.f50 [.k (.pair (.int .i64) (.pair (.list .float) (.pair (.list .float) .unit)))] [⟨[.box [.k (.int .i64), .row 35 .float, .row 35 .float]], [none]⟩] (v1, ()) = impl_box N v1 := by
  exact (show evF2 (impl_box_E N) [] Try.f50 [.k (.pair (.int .i64) (.pair (.list .float) (.pair (.list .float) .unit)))] [⟨[.box [.k (.int .i64), .row 35 .float, .row 35 .float]], [none]⟩] (v1, ()) = impl_box_g N v1 from by kernel_rfl).trans (by rfl)
noncomputable def impl_box_con (N : Nat) : Con2 := ⟨50, [.k (.pair (.int .i64) (.pair (.list .float) (.pair (.list .float) .unit)))], [⟨[.box [.k (.int .i64), .row 35 .float, .row 35 .float]], [none]⟩], fun x => impl_box N x.1⟩
theorem impl_box_s (N : Nat) : (impl_box_con N).Sound Try.prog :=
  Con2.sound_of (c := impl_box_con N) (E := (impl_box_E N)) (idle := []) Try.func50 (by kernel_rfl) (by kernel_rfl) ⟨allNil, (allCons (impl_floats_s N) (allCons (gogeom_DoorBounds_b_s N) allNil))⟩ allNil (fun x y h => (impl_box_t N x.1).trans h)
/-- (pub-orthodrome/pub/gogeom.Layout).Stride -/
noncomputable def gogeom_Layout_Stride_E (N : Nat) : Env := ⟨Try.prog, N, [], [(0, ⟨[], [], [0], [], none⟩), (1, ⟨[], [], [0], [], none⟩), (3, ⟨[], [], [0, 3], [], none⟩), (4, ⟨[], [], [0, 3, 5], [], none⟩), (6, ⟨[], [], [0, 3, 7], [], none⟩), (8, ⟨[], [], [0, 3, 9], [], none⟩), (10, ⟨[], [], [0, 3, 11], [], none⟩), (12, ⟨[], [], [0, 13], [], none⟩)], kdL [], []⟩
def gogeom_Layout_Stride_g (N : Nat) (v1 : Int) : Option (Int) :=
  (bif (v1 == 0) then (some 0) else (bif (v1 == 1) then (some 2) else (bif (v1 == 2) then (some 3) else (bif (v1 == 3) then (some 3) else (bif (v1 == 4) then (some 4) else (some v1))))))
def gogeom_Layout_Stride (N : Nat) (v1 : Int) : Option (Int) :=
  gogeom_Layout_Stride_g N v1
set_option maxRecDepth 100000
theorem gogeom_Layout_Stride_t (N : Nat) (v1 : Int) : evF (gogeom_Layout_Stride_E N) [] Try.f90 [.k (.int .i64)] [(.int .i64)] (v1, ()) = gogeom_Layout_Stride N v1 := by
  exact (show evF (gogeom_Layout_Stride_E N) [] Try.f90 [.k (.int .i64)] [(.int .i64)] (v1, ()) = gogeom_Layout_Stride_g N v1 from by kernel_rfl).trans (by rfl)
noncomputable def gogeom_Layout_Stride_con (N : Nat) : Con := ⟨90, [.k (.int .i64)], [(.int .i64)], fun x => gogeom_Layout_Stride N x.1⟩
theorem gogeom_Layout_Stride_s (N : Nat) : (gogeom_Layout_Stride_con N).Sound Try.prog :=
  Con.sound_of (c := gogeom_Layout_Stride_con N) (E := (gogeom_Layout_Stride_E N)) (idle := []) Try.func90 (by kernel_rfl) (by kernel_rfl) ⟨allNil, allNil⟩ allNil (fun x y h => (gogeom_Layout_Stride_t N x.1).trans h)
/-- (*pub-orthodrome/pub/gogeom.Bounds).IsEmpty -/
noncomputable def gogeom_Bounds_IsEmpty_E (N : Nat) : Env := ⟨Try.prog, N, [gogeom_Layout_Stride_con N], [(0, ⟨[], [], [0], [], none⟩), (1, ⟨[], [], [0], [], none⟩), (2, ⟨[], [], [0, 9], [], none⟩), (3, ⟨[], [], [0], [], none⟩), (4, ⟨[], [], [0, 3, 4], [], none⟩), (5, ⟨[], [], [0, 3, 4], [], none⟩), (6, ⟨[], [], [0, 3, 4], [], none⟩), (7, ⟨[], [], [0, 3, 4, 34], [], none⟩), (8, ⟨[], [], [], [], none⟩)], kdL [], []⟩
def gogeom_Bounds_IsEmpty_g0 (N : Nat) (v1 : (Int × ((List Nat) × ((List Nat) × Unit)))) (v2 : Int) (r0 : Int → Option ((Bool × Unit))) (v5 : Int) : Option ((Bool × Unit)) :=
  (bif (decide ((v5 : Int) < v2)) then ((nth v1.2.2.1 v5).bind fun v6 => (nth v1.2.1 v5).bind fun v7 => (bif (flt v6 v7) then (some (true, ())) else ((r0 (IntKind.i64.wrap (v5 + 1)))))) else (some (false, ())))
def gogeom_Bounds_IsEmpty_l0 (N : Nat) : Nat → (Int × ((List Nat) × ((List Nat) × Unit))) → Int → Int → Option ((Bool × Unit))
  | 0, _, _, _ => none
  | n + 1, v1, v2, v5 => gogeom_Bounds_IsEmpty_g0 N v1 v2 (gogeom_Bounds_IsEmpty_l0 N n v1 v2) v5
def gogeom_Bounds_IsEmpty_g (N : Nat) (v1 : (Int × ((List Nat) × ((List Nat) × Unit)))) (c0 : (Int × ((List Nat) × ((List Nat) × Unit))) → Int → Int → Option ((Bool × Unit))) : Option ((Bool × Unit)) :=
  (bif (v1.1 == 0) then (some (true, ())) else ((gogeom_Layout_Stride N v1.1).bind fun v2 => ((c0 v1 v2 0))))
def gogeom_Bounds_IsEmpty (N : Nat) (v1 : (Int × ((List Nat) × ((List Nat) × Unit)))) : Option ((Bool × Unit)) :=
  gogeom_Bounds_IsEmpty_g N v1 (gogeom_Bounds_IsEmpty_l0 N N)
set_option maxRecDepth 100000
noncomputable def gogeom_Bounds_IsEmpty_e0 (N : Nat) (n : Nat) (v1 : (Int × ((List Nat) × ((List Nat) × Unit)))) (v2 : Int) (v5 : Int) : Option (AltD [⟨[.k .bool], [none]⟩]) :=
  loopN (advOf (gogeom_Bounds_IsEmpty_E N) (codeAt (bodyOf Try.f127) [1, 1, 0, 1, 0, 0])) (evC (gogeom_Bounds_IsEmpty_E N) (codeAt (bodyOf Try.f127) [1, 1, 0, 1, 0, 0])) n ⟨[(0, .eref (.pair (.int .i64) (.pair (.list .float) (.pair (.list .float) .unit))) v1), (3, .pv (.int .i64) v5), (4, .pv (.int .i64) v2)], [], []⟩ (kBlock 0 (kSeq (advOf (gogeom_Bounds_IsEmpty_E N) (codeAt (bodyOf Try.f127) [1, 1, 1])) (evC (gogeom_Bounds_IsEmpty_E N) (codeAt (bodyOf Try.f127) [1, 1, 1])) (kEnd2 (gogeom_Bounds_IsEmpty_E N) [] Try.f127.results.toList [⟨[.k .bool], [none]⟩] [.dead])))
theorem gogeom_Bounds_IsEmpty_t0 (N : Nat) : ∀ (n : Nat) (v1 : (Int × ((List Nat) × ((List Nat) × Unit)))) (v2 : Int) (v5 : Int), gogeom_Bounds_IsEmpty_e0 N n v1 v2 v5 = gogeom_Bounds_IsEmpty_l0 N n v1 v2 v5
  | 0, _, _, _ => rfl
  | n + 1, v1, v2, v5 => by
    have h : gogeom_Bounds_IsEmpty_e0 N n v1 v2 = gogeom_Bounds_IsEmpty_l0 N n v1 v2 := by funext v5; exact gogeom_Bounds_IsEmpty_t0 N n v1 v2 v5
    exact (show gogeom_Bounds_IsEmpty_e0 N (n + 1) v1 v2 v5 = gogeom_Bounds_IsEmpty_g0 N v1 v2 (gogeom_Bounds_IsEmpty_e0 N n v1 v2) v5 from by kernel_rfl).trans (by rw [h]; rfl)
theorem gogeom_Bounds_IsEmpty_t (N : Nat) (v1 : (Int × ((List Nat) × ((List Nat) × Unit)))) : evF2 (gogeom_Bounds_IsEmpty_E N) [] Try.f127 [.lref (.pair (.int .i64) (.pair (.list .float) (.pair (.list .float) .unit)))] [⟨[.k .bool], [none]⟩] (v1, ()) = gogeom_Bounds_IsEmpty N v1 := by
  have h0 : (gogeom_Bounds_IsEmpty_e0 N N) = (gogeom_Bounds_IsEmpty_l0 N N) := by funext v1 v2 v5; exact gogeom_Bounds_IsEmpty_t0 N N v1 v2 v5
  exact (show evF2 (gogeom_Bounds_IsEmpty_E N) [] Try.f127 [.lref (.pair (.int .i64) (.pair (.list .float) (.pair (.list .float) .unit)))] [⟨[.k .bool], [none]⟩] (v1, ()) = gogeom_Bounds_IsEmpty_g N v1 (gogeom_Bounds_IsEmpty_e0 N N) from by kernel_rfl).trans (by rw [h0]; rfl)
noncomputable def gogeom_Bounds_IsEmpty_con (N : Nat) : Con2 := ⟨127, [.lref (.pair (.int .i64) (.pair (.list .float) (.pair (.list .float) .unit)))], [⟨[.k .bool], [none]⟩], fun x => gogeom_Bounds_IsEmpty N x.1⟩
theorem gogeom_Bounds_IsEmpty_s (N : Nat) : (gogeom_Bounds_IsEmpty_con N).Sound Try.prog :=
  Con2.sound_of (c := gogeom_Bounds_IsEmpty_con N) (E := (gogeom_Bounds_IsEmpty_E N)) (idle := []) Try.func127 (by kernel_rfl) (by kernel_rfl) ⟨(allCons (gogeom_Layout_Stride_s N) allNil), allNil⟩ allNil (fun x y h => (gogeom_Bounds_IsEmpty_t N x.1).trans h)
/-- pub-orthodrome/pub/gogeom.NewPolygonFlat -/
noncomputable def gogeom_NewPolygonFlat_b_E (N : Nat) : Env := ⟨Try.prog, N, [gogeom_Layout_Stride_con N], [(0, ⟨[], [], [0, 1, 2], [1000000, 1000001], none⟩), (1, ⟨[], [], [0, 1, 2], [1000000, 1000001], none⟩), (2, ⟨[], [], [0, 1, 2, 7], [8, 1000000, 1000001], none⟩), (3, ⟨[], [], [0, 1, 2, 7], [8, 1000000, 1000001], none⟩), (4, ⟨[], [], [1, 2, 7], [8, 1000000, 1000001], none⟩), (5, ⟨[], [], [2, 7], [8, 1000000, 1000001], none⟩), (6, ⟨[], [], [7], [8, 1000000, 1000001], none⟩)], kdL [], []⟩
def gogeom_NewPolygonFlat_b_g (N : Nat) (v1 : Int) (v2 : (List Nat)) (v3 : (List Int)) : Option (((Int × Int × (List Nat) × Int × (List Int) × Unit) × Unit)) :=
  ((gogeom_Layout_Stride N v1).bind fun v4 => (some ((v1, v4, v2, 0, v3, ()), ())))
def gogeom_NewPolygonFlat_b (N : Nat) (v1 : Int) (v2 : (List Nat)) (v3 : (List Int)) : Option (((Int × Int × (List Nat) × Int × (List Int) × Unit) × Unit)) :=
  gogeom_NewPolygonFlat_b_g N v1 v2 v3
set_option maxRecDepth 100000
theorem gogeom_NewPolygonFlat_b_t (N : Nat) (v1 : Int) (v2 : (List Nat)) (v3 : (List Int)) : evF2 (gogeom_NewPolygonFlat_b_E N) [] Try.f109 [.k (.int .i64), .row 35 .float, .row 3 (.int .i64)] [⟨[.box [.k (.int .i64), .k (.int .i64), .row 35 .float, .k (.int .i64), .row 3 (.int .i64)]], [none, none, none]⟩] (v1, v2, v3, ()) = gogeom_NewPolygonFlat_b N v1 v2 v3 := by
  exact (show evF2 (gogeom_NewPolygonFlat_b_E N) [] Try.f109 [.k (.int .i64), .row 35 .float, .row 3 (.int .i64)] [⟨[.box [.k (.int .i64), .k (.int .i64), .row 35 .float, .k (.int .i64), .row 3 (.int .i64)]], [none, none, none]⟩] (v1, v2, v3, ()) = gogeom_NewPolygonFlat_b_g N v1 v2 v3 from by kernel_rfl).trans (by rfl)
noncomputable def gogeom_NewPolygonFlat_b_con (N : Nat) : Con2 := ⟨109, [.k (.int .i64), .row 35 .float, .row 3 (.int .i64)], [⟨[.box [.k (.int .i64), .k (.int .i64), .row 35 .float, .k (.int .i64), .row 3 (.int .i64)]], [none, none, none]⟩], fun x => gogeom_NewPolygonFlat_b N x.1 x.2.1 x.2.2.1⟩
theorem gogeom_NewPolygonFlat_b_s (N : Nat) : (gogeom_NewPolygonFlat_b_con N).Sound Try.prog :=
  Con2.sound_of (c := gogeom_NewPolygonFlat_b_con N) (E := (gogeom_NewPolygonFlat_b_E N)) (idle := []) Try.func109 (by kernel_rfl) (by kernel_rfl) ⟨(allCons (gogeom_Layout_Stride_s N) allNil), allNil⟩ allNil (fun x y h => (gogeom_NewPolygonFlat_b_t N x.1 x.2.1 x.2.2.1).trans h)
/-- (*pub-orthodrome/pub/gogeom.Bounds).Polygon -/
noncomputable def gogeom_Bounds_Polygon_E (N : Nat) : Env := ⟨Try.prog, N, [], [(0, ⟨[], [], [0], [], none⟩), (1, ⟨[], [], [0], [], none⟩), (2, ⟨[], [], [0, 9], [], none⟩), (3, ⟨[], [], [0], [], none⟩), (4, ⟨[], [], [0, 3, 4], [], none⟩), (5, ⟨[], [], [3, 4, 5, 6], [], none⟩), (6, ⟨[], [], [7], [45], none⟩)], kdL [(3, (.int .i64)), (35, .float)], [gogeom_Bounds_IsEmpty_con N, gogeom_NewPolygonFlat_b_con N]⟩
def gogeom_Bounds_Polygon_g (N : Nat) (v1 : (Int × ((List Nat) × ((List Nat) × Unit)))) : Option (((Int × Int × (List Nat) × Int × (List Int) × Unit) × Unit)) :=
  ((gogeom_Bounds_IsEmpty N v1).bind fun v2 => (bif v2.1 then ((gogeom_NewPolygonFlat_b N 1 ([] : List Nat) ([] : List Int)).bind fun v3 => (some ((v3.1.1, v3.1.2.1, v3.1.2.2.1, v3.1.2.2.2.1, v3.1.2.2.2.2.1, ()), ()))) else ((nth v1.2.1 0).bind fun v4 => (nth v1.2.1 1).bind fun v5 => ((nth v1.2.2.1 0).bind fun v6 => (nth v1.2.2.1 1).bind fun v7 => ((gogeom_NewPolygonFlat_b N 1 ([v4, v5, v4, v7, v6, v7, v6, v5, v4, v5] : List Nat) ([(([v4, v5, v4, v7, v6, v7, v6, v5, v4, v5] : List Nat).length : Int)] : List Int)).bind fun v8 => (some ((v8.1.1, v8.1.2.1, v8.1.2.2.1, v8.1.2.2.2.1, v8.1.2.2.2.2.1, ()), ())))))))
def gogeom_Bounds_Polygon (N : Nat) (v1 : (Int × ((List Nat) × ((List Nat) × Unit)))) : Option (((Int × Int × (List Nat) × Int × (List Int) × Unit) × Unit)) :=
  gogeom_Bounds_Polygon_g N v1
set_option maxRecDepth 100000
theorem gogeom_Bounds_Polygon_t (N : Nat) (v1 : (Int × ((List Nat) × ((List Nat) × Unit)))) : evF2 (gogeom_Bounds_Polygon_E N) [] Try.f84 [.lref (.pair (.int .i64) (.pair (.list .float) (.pair (.list .float) .unit)))] [⟨[.box [.k (.int .i64), .k (.int .i64), .row 35 .float, .k (.int .i64), .row 3 (.int .i64)]], [none]⟩] (v1, ()) = gogeom_Bounds_Polygon N v1 := by
  exact (show evF2 (gogeom_Bounds_Polygon_E N) [] Try.f84 [.lref (.pair (.int .i64) (.pair (.list .float) (.pair (.list .float) .unit)))] [⟨[.box [.k (.int .i64), .k (.int .i64), .row 35 .float, .k (.int .i64), .row 3 (.int .i64)]], [none]⟩] (v1, ()) = gogeom_Bounds_Polygon_g N v1 from by kernel_rfl).trans (by rfl)
noncomputable def gogeom_Bounds_Polygon_con (N : Nat) : Con2 := ⟨84, [.lref (.pair (.int .i64) (.pair (.list .float) (.pair (.list .float) .unit)))], [⟨[.box [.k (.int .i64), .k (.int .i64), .row 35 .float, .k (.int .i64), .row 3 (.int .i64)]], [none]⟩], fun x => gogeom_Bounds_Polygon N x.1⟩
theorem gogeom_Bounds_Polygon_s (N : Nat) : (gogeom_Bounds_Polygon_con N).Sound Try.prog :=
  Con2.sound_of (c := gogeom_Bounds_Polygon_con N) (E := (gogeom_Bounds_Polygon_E N)) (idle := []) Try.func84 (by kernel_rfl) (by kernel_rfl) ⟨allNil, (allCons (gogeom_Bounds_IsEmpty_s N) (allCons (gogeom_NewPolygonFlat_b_s N) allNil))⟩ allNil (fun x y h => (gogeom_Bounds_Polygon_t N x.1).trans h)
/-- (*pub-orthodrome/pub/gogeom.geom0).SRID -/
noncomputable def gogeom_geom0_SRID_E (N : Nat) : Env := ⟨Try.prog, N, [], [(0, ⟨[], [], [0], [1000000, 1000001, 1000002], none⟩), (1, ⟨[], [], [0], [1000000, 1000001, 1000002], none⟩)], kdL [], []⟩
def gogeom_geom0_SRID_g (N : Nat) (v1 : (Int × Int × (List Nat) × Int × (List Int) × Unit)) : Option ((Int × (Int × Int × (List Nat) × Int × (List Int) × Unit) × Unit)) :=
  (some (v1.2.2.2.1, (v1.1, v1.2.1, v1.2.2.1, v1.2.2.2.1, v1.2.2.2.2.1, ()), ()))
def gogeom_geom0_SRID (N : Nat) (v1 : (Int × Int × (List Nat) × Int × (List Int) × Unit)) : Option ((Int × (Int × Int × (List Nat) × Int × (List Int) × Unit) × Unit)) :=
  gogeom_geom0_SRID_g N v1
set_option maxRecDepth 100000
theorem gogeom_geom0_SRID_t (N : Nat) (v1 : (Int × Int × (List Nat) × Int × (List Int) × Unit)) : evF2 (gogeom_geom0_SRID_E N) [] Try.f177 [.box [.k (.int .i64), .k (.int .i64), .row 35 .float, .k (.int .i64), .row 3 (.int .i64)]] [⟨[.k (.int .i64)], [some (.box [.k (.int .i64), .k (.int .i64), .row 35 .float, .k (.int .i64), .row 3 (.int .i64)])]⟩] (v1, ()) = gogeom_geom0_SRID N v1 := by
  exact (show evF2 (gogeom_geom0_SRID_E N) [] Try.f177 [.box [.k (.int .i64), .k (.int .i64), .row 35 .float, .k (.int .i64), .row 3 (.int .i64)]] [⟨[.k (.int .i64)], [some (.box [.k (.int .i64), .k (.int .i64), .row 35 .float, .k (.int .i64), .row 3 (.int .i64)])]⟩] (v1, ()) = gogeom_geom0_SRID_g N v1 from by kernel_rfl).trans (by rfl)
noncomputable def gogeom_geom0_SRID_con (N : Nat) : Con2 := ⟨177, [.box [.k (.int .i64), .k (.int .i64), .row 35 .float, .k (.int .i64), .row 3 (.int .i64)]], [⟨[.k (.int .i64)], [some (.box [.k (.int .i64), .k (.int .i64), .row 35 .float, .k (.int .i64), .row 3 (.int .i64)])]⟩], fun x => gogeom_geom0_SRID N x.1⟩
theorem gogeom_geom0_SRID_s (N : Nat) : (gogeom_geom0_SRID_con N).Sound Try.prog :=
  Con2.sound_of (c := gogeom_geom0_SRID_con N) (E := (gogeom_geom0_SRID_E N)) (idle := []) Try.func177 (by kernel_rfl) (by kernel_rfl) ⟨allNil, allNil⟩ allNil (fun x y h => (gogeom_geom0_SRID_t N x.1).trans h)
/-- (*pub-orthodrome/pub/gogeom.geom0).Layout -/
noncomputable def gogeom_geom0_Layout_b_E (N : Nat) : Env := ⟨Try.prog, N, [], [(0, ⟨[], [], [0], [1000000, 1000001, 1000002], none⟩), (1, ⟨[], [], [0], [1000000, 1000001, 1000002], none⟩)], kdL [], []⟩
def gogeom_geom0_Layout_b_g (N : Nat) (v1 : (Int × Int × (List Nat) × Int × (List Int) × Unit)) : Option ((Int × (Int × Int × (List Nat) × Int × (List Int) × Unit) × Unit)) :=
  (some (v1.1, (v1.1, v1.2.1, v1.2.2.1, v1.2.2.2.1, v1.2.2.2.2.1, ()), ()))
def gogeom_geom0_Layout_b (N : Nat) (v1 : (Int × Int × (List Nat) × Int × (List Int) × Unit)) : Option ((Int × (Int × Int × (List Nat) × Int × (List Int) × Unit) × Unit)) :=
  gogeom_geom0_Layout_b_g N v1
set_option maxRecDepth 100000
theorem gogeom_geom0_Layout_b_t (N : Nat) (v1 : (Int × Int × (List Nat) × Int × (List Int) × Unit)) : evF2 (gogeom_geom0_Layout_b_E N) [] Try.f174 [.box [.k (.int .i64), .k (.int .i64), .row 35 .float, .k (.int .i64), .row 3 (.int .i64)]] [⟨[.k (.int .i64)], [some (.box [.k (.int .i64), .k (.int .i64), .row 35 .float, .k (.int .i64), .row 3 (.int .i64)])]⟩] (v1, ()) = gogeom_geom0_Layout_b N v1 := by
  exact (show evF2 (gogeom_geom0_Layout_b_E N) [] Try.f174 [.box [.k (.int .i64), .k (.int .i64), .row 35 .float, .k (.int .i64), .row 3 (.int .i64)]] [⟨[.k (.int .i64)], [some (.box [.k (.int .i64), .k (.int .i64), .row 35 .float, .k (.int .i64), .row 3 (.int .i64)])]⟩] (v1, ()) = gogeom_geom0_Layout_b_g N v1 from by kernel_rfl).trans (by rfl)
noncomputable def gogeom_geom0_Layout_b_con (N : Nat) : Con2 := ⟨174, [.box [.k (.int .i64), .k (.int .i64), .row 35 .float, .k (.int .i64), .row 3 (.int .i64)]], [⟨[.k (.int .i64)], [some (.box [.k (.int .i64), .k (.int .i64), .row 35 .float, .k (.int .i64), .row 3 (.int .i64)])]⟩], fun x => gogeom_geom0_Layout_b N x.1⟩
theorem gogeom_geom0_Layout_b_s (N : Nat) : (gogeom_geom0_Layout_b_con N).Sound Try.prog :=
  Con2.sound_of (c := gogeom_geom0_Layout_b_con N) (E := (gogeom_geom0_Layout_b_E N)) (idle := []) Try.func174 (by kernel_rfl) (by kernel_rfl) ⟨allNil, allNil⟩ allNil (fun x y h => (gogeom_geom0_Layout_b_t N x.1).trans h)
/-- (*pub-orthodrome/pub/gogeom.geom0).FlatCoords -/
noncomputable def gogeom_geom0_FlatCoords_E (N : Nat) : Env := ⟨Try.prog, N, [], [(0, ⟨[], [], [0], [1000000, 1000001, 1000002], none⟩), (1, ⟨[], [], [0], [1000000, 1000001, 1000002], none⟩)], kdL [], []⟩
def gogeom_geom0_FlatCoords_g (N : Nat) (v1 : (Int × Int × (List Nat) × Int × (List Int) × Unit)) : Option (((List Nat) × (Int × Int × (List Nat) × Int × (List Int) × Unit) × Unit)) :=
  (some (v1.2.2.1, (v1.1, v1.2.1, v1.2.2.1, v1.2.2.2.1, v1.2.2.2.2.1, ()), ()))
def gogeom_geom0_FlatCoords (N : Nat) (v1 : (Int × Int × (List Nat) × Int × (List Int) × Unit)) : Option (((List Nat) × (Int × Int × (List Nat) × Int × (List Int) × Unit) × Unit)) :=
  gogeom_geom0_FlatCoords_g N v1
set_option maxRecDepth 100000
theorem gogeom_geom0_FlatCoords_t (N : Nat) (v1 : (Int × Int × (List Nat) × Int × (List Int) × Unit)) : evF2 (gogeom_geom0_FlatCoords_E N) [] Try.f173 [.box [.k (.int .i64), .k (.int .i64), .row 35 .float, .k (.int .i64), .row 3 (.int .i64)]] [⟨[.k (.list .float)], [some (.box [.k (.int .i64), .k (.int .i64), .k (.list .float), .k (.int .i64), .row 3 (.int .i64)])]⟩] (v1, ()) = gogeom_geom0_FlatCoords N v1 := by
  exact (show evF2 (gogeom_geom0_FlatCoords_E N) [] Try.f173 [.box [.k (.int .i64), .k (.int .i64), .row 35 .float, .k (.int .i64), .row 3 (.int .i64)]] [⟨[.k (.list .float)], [some (.box [.k (.int .i64), .k (.int .i64), .k (.list .float), .k (.int .i64), .row 3 (.int .i64)])]⟩] (v1, ()) = gogeom_geom0_FlatCoords_g N v1 from by kernel_rfl).trans (by rfl)
noncomputable def gogeom_geom0_FlatCoords_con (N : Nat) : Con2 := ⟨173, [.box [.k (.int .i64), .k (.int .i64), .row 35 .float, .k (.int .i64), .row 3 (.int .i64)]], [⟨[.k (.list .float)], [some (.box [.k (.int .i64), .k (.int .i64), .k (.list .float), .k (.int .i64), .row 3 (.int .i64)])]⟩], fun x => gogeom_geom0_FlatCoords N x.1⟩
theorem gogeom_geom0_FlatCoords_s (N : Nat) : (gogeom_geom0_FlatCoords_con N).Sound Try.prog :=
  Con2.sound_of (c := gogeom_geom0_FlatCoords_con N) (E := (gogeom_geom0_FlatCoords_E N)) (idle := []) Try.func173 (by kernel_rfl) (by kernel_rfl) ⟨allNil, allNil⟩ allNil (fun x y h => (gogeom_geom0_FlatCoords_t N x.1).trans h)
/-- (*pub-orthodrome/pub/gogeom.geom2).Ends -/
noncomputable def gogeom_geom2_Ends_b_E (N : Nat) : Env := ⟨Try.prog, N, [], [(0, ⟨[], [], [0], [1000000, 1000001], none⟩), (1, ⟨[], [], [0], [1000000, 1000001], none⟩)], kdL [], []⟩
def gogeom_geom2_Ends_b_g (N : Nat) (v1 : (Int × Int × (List Nat) × Int × (List Int) × Unit)) : Option (((List Int) × (Int × Int × (List Nat) × Int × (List Int) × Unit) × Unit)) :=
  (some (v1.2.2.2.2.1, (v1.1, v1.2.1, v1.2.2.1, v1.2.2.2.1, v1.2.2.2.2.1, ()), ()))
def gogeom_geom2_Ends_b (N : Nat) (v1 : (Int × Int × (List Nat) × Int × (List Int) × Unit)) : Option (((List Int) × (Int × Int × (List Nat) × Int × (List Int) × Unit) × Unit)) :=
  gogeom_geom2_Ends_b_g N v1
set_option maxRecDepth 100000
theorem gogeom_geom2_Ends_b_t (N : Nat) (v1 : (Int × Int × (List Nat) × Int × (List Int) × Unit)) : evF2 (gogeom_geom2_Ends_b_E N) [] Try.f188 [.box [.k (.int .i64), .k (.int .i64), .k (.list .float), .k (.int .i64), .row 3 (.int .i64)]] [⟨[.k (.list (.int .i64))], [some (.box [.k (.int .i64), .k (.int .i64), .k (.list .float), .k (.int .i64), .k (.list (.int .i64))])]⟩] (v1, ()) = gogeom_geom2_Ends_b N v1 := by
  exact (show evF2 (gogeom_geom2_Ends_b_E N) [] Try.f188 [.box [.k (.int .i64), .k (.int .i64), .k (.list .float), .k (.int .i64), .row 3 (.int .i64)]] [⟨[.k (.list (.int .i64))], [some (.box [.k (.int .i64), .k (.int .i64), .k (.list .float), .k (.int .i64), .k (.list (.int .i64))])]⟩] (v1, ()) = gogeom_geom2_Ends_b_g N v1 from by kernel_rfl).trans (by rfl)
noncomputable def gogeom_geom2_Ends_b_con (N : Nat) : Con2 := ⟨188, [.box [.k (.int .i64), .k (.int .i64), .k (.list .float), .k (.int .i64), .row 3 (.int .i64)]], [⟨[.k (.list (.int .i64))], [some (.box [.k (.int .i64), .k (.int .i64), .k (.list .float), .k (.int .i64), .k (.list (.int .i64))])]⟩], fun x => gogeom_geom2_Ends_b N x.1⟩
theorem gogeom_geom2_Ends_b_s (N : Nat) : (gogeom_geom2_Ends_b_con N).Sound Try.prog :=
  Con2.sound_of (c := gogeom_geom2_Ends_b_con N) (E := (gogeom_geom2_Ends_b_E N)) (idle := []) Try.func188 (by kernel_rfl) (by kernel_rfl) ⟨allNil, allNil⟩ allNil (fun x y h => (gogeom_geom2_Ends_b_t N x.1).trans h)
/-- pub-orthodrome/impl.ints -/
noncomputable def impl_ints_E (N : Nat) : Env := ⟨Try.prog, N, [], [(0, ⟨[], [], [0], [], none⟩), (1, ⟨[], [], [0], [], none⟩)], kdL [(3, (.int .i64))], []⟩
def impl_ints_g (N : Nat) (v1 : (List Int)) : Option (((List Int) × Unit)) :=
  ((lim (v1.length * 8)).bind fun _ => (some (v1, ())))
def impl_ints (N : Nat) (v1 : (List Int)) : Option (((List Int) × Unit)) :=
  impl_ints_g N v1
set_option maxRecDepth 100000
theorem impl_ints_t (N : Nat) (v1 : (List Int)) : evF2 (impl_ints_E N) [] Try.f100 [.k (.list (.int .i64))] [⟨[.row 3 (.int .i64)], [none]⟩] (v1, ()) = impl_ints N v1 := by
  exact (show evF2 (impl_ints_E N) [] Try.f100 [.k (.list (.int .i64))] [⟨[.row 3 (.int .i64)], [none]⟩] (v1, ()) = impl_ints_g N v1 from by kernel_rfl).trans (by rfl)
noncomputable def impl_ints_con (N : Nat) : Con2 := ⟨100, [.k (.list (.int .i64))], [⟨[.row 3 (.int .i64)], [none]⟩], fun x => impl_ints N x.1⟩
theorem impl_ints_s (N : Nat) : (impl_ints_con N).Sound Try.prog :=
  Con2.sound_of (c := impl_ints_con N) (E := (impl_ints_E N)) (idle := []) Try.func100 (by kernel_rfl) (by kernel_rfl) ⟨allNil, allNil⟩ allNil (fun x y h => (impl_ints_t N x.1).trans h)
/-- (*pub-orthodrome/pub/gogeom.geom0).Endss -/
noncomputable def gogeom_geom0_Endss_b_E (N : Nat) : Env := ⟨Try.prog, N, [], [(0, ⟨[], [], [], [1000000], none⟩), (1, ⟨[], [], [], [1000000], none⟩)], kdL [], []⟩
def gogeom_geom0_Endss_b_g (N : Nat) (v1 : (Int × Int × (List Nat) × Int × (List Int) × Unit)) : Option (((List (List Int)) × (Int × Int × (List Nat) × Int × (List Int) × Unit) × Unit)) :=
  (some (([] : List (List Int)), (v1.1, v1.2.1, v1.2.2.1, v1.2.2.2.1, v1.2.2.2.2.1, ()), ()))
def gogeom_geom0_Endss_b (N : Nat) (v1 : (Int × Int × (List Nat) × Int × (List Int) × Unit)) : Option (((List (List Int)) × (Int × Int × (List Nat) × Int × (List Int) × Unit) × Unit)) :=
  gogeom_geom0_Endss_b_g N v1
set_option maxRecDepth 100000
theorem gogeom_geom0_Endss_b_t (N : Nat) (v1 : (Int × Int × (List Nat) × Int × (List Int) × Unit)) : evF2 (gogeom_geom0_Endss_b_E N) [] Try.f172 [.box [.k (.int .i64), .k (.int .i64), .k (.list .float), .k (.int .i64), .k (.list (.int .i64))]] [⟨[.row 29 (.list (.int .i64))], [some (.box [.k (.int .i64), .k (.int .i64), .k (.list .float), .k (.int .i64), .k (.list (.int .i64))])]⟩] (v1, ()) = gogeom_geom0_Endss_b N v1 := by
  exact (show evF2 (gogeom_geom0_Endss_b_E N) [] Try.f172 [.box [.k (.int .i64), .k (.int .i64), .k (.list .float), .k (.int .i64), .k (.list (.int .i64))]] [⟨[.row 29 (.list (.int .i64))], [some (.box [.k (.int .i64), .k (.int .i64), .k (.list .float), .k (.int .i64), .k (.list (.int .i64))])]⟩] (v1, ()) = gogeom_geom0_Endss_b_g N v1 from by kernel_rfl).trans (by rfl)
noncomputable def gogeom_geom0_Endss_b_con (N : Nat) : Con2 := ⟨172, [.box [.k (.int .i64), .k (.int .i64), .k (.list .float), .k (.int .i64), .k (.list (.int .i64))]], [⟨[.row 29 (.list (.int .i64))], [some (.box [.k (.int .i64), .k (.int .i64), .k (.list .float), .k (.int .i64), .k (.list (.int .i64))])]⟩], fun x => gogeom_geom0_Endss_b N x.1⟩
theorem gogeom_geom0_Endss_b_s (N : Nat) : (gogeom_geom0_Endss_b_con N).Sound Try.prog :=
  Con2.sound_of (c := gogeom_geom0_Endss_b_con N) (E := (gogeom_geom0_Endss_b_E N)) (idle := []) Try.func172 (by kernel_rfl) (by kernel_rfl) ⟨allNil, allNil⟩ allNil (fun x y h => (gogeom_geom0_Endss_b_t N x.1).trans h)
/-- pub-orthodrome/impl.intss -/
noncomputable def impl_intss_E (N : Nat) : Env := ⟨Try.prog, N, [], [(0, ⟨[], [], [0], [], none⟩), (1, ⟨[], [], [0], [], none⟩), (2, ⟨[], [], [0, 3], [], none⟩), (3, ⟨[(3, 29, (.list (.int .i64)), 90300)], [], [3, 6, 7, 8], [90300], none⟩), (4, ⟨[], [], [3, 6, 7, 8], [90300], none⟩), (5, ⟨[], [], [3, 5, 6, 7, 8], [90300], none⟩), (6, ⟨[], [], [3, 6, 7, 8], [16], none⟩), (7, ⟨[], [], [3], [90300], none⟩)], kdL [(29, (.list (.int .i64)))], [impl_ints_con N]⟩
def impl_intss_g0 (N : Nat) (v1 : (List (List Int))) (r0 : Int → (List (List Int)) → Option (((List (List Int)) × Unit))) (v4 : Int) (v5 : (List (List Int))) : Option (((List (List Int)) × Unit)) :=
  (bif (decide ((v4 : Int) < (v1.length : Int))) then ((nth v1 v4).bind fun v6 => ((impl_ints N v6).bind fun v7 => (lim ((v5.length + ([v7.1] : List (List Int)).length) * 24)).bind fun _ => ((r0 (IntKind.i64.wrap (v4 + 1)) (v5 ++ ([v7.1] : List (List Int))))))) else (some (v5, ())))
def impl_intss_l0 (N : Nat) : Nat → (List (List Int)) → Int → (List (List Int)) → Option (((List (List Int)) × Unit))
  | 0, _, _, _ => none
  | n + 1, v1, v4, v5 => impl_intss_g0 N v1 (impl_intss_l0 N n v1) v4 v5
def impl_intss_g (N : Nat) (v1 : (List (List Int))) (c0 : (List (List Int)) → Int → (List (List Int)) → Option (((List (List Int)) × Unit))) : Option (((List (List Int)) × Unit)) :=
  ((c0 v1 0 ([] : List (List Int))))
def impl_intss (N : Nat) (v1 : (List (List Int))) : Option (((List (List Int)) × Unit)) :=
  impl_intss_g N v1 (impl_intss_l0 N N)
set_option maxRecDepth 100000
noncomputable def impl_intss_e0 (N : Nat) (n : Nat) (v1 : (List (List Int))) (v4 : Int) (v5 : (List (List Int))) : Option (AltD [⟨[.row 29 (.list (.int .i64))], [none]⟩]) :=
  loopN (advOf (impl_intss_E N) (codeAt (bodyOf Try.f101) [1, 1, 0, 1, 0, 0])) (evC (impl_intss_E N) (codeAt (bodyOf Try.f101) [1, 1, 0, 1, 0, 0])) n ⟨[(3, .own (.list (.int .i64)) 90300), (6, .pv (.list (.list (.int .i64))) v1), (7, .pv (.int .i64) (v1.length : Int)), (8, .pv (.int .i64) v4)], [(90300, .arr 29 (.list (.int .i64)) v5)], []⟩ (kBlock 0 (kSeq (advOf (impl_intss_E N) (codeAt (bodyOf Try.f101) [1, 1, 1])) (evC (impl_intss_E N) (codeAt (bodyOf Try.f101) [1, 1, 1])) (kEnd2 (impl_intss_E N) [] Try.f101.results.toList [⟨[.row 29 (.list (.int .i64))], [none]⟩] [.dead])))
theorem impl_intss_t0 (N : Nat) : ∀ (n : Nat) (v1 : (List (List Int))) (v4 : Int) (v5 : (List (List Int))), impl_intss_e0 N n v1 v4 v5 = impl_intss_l0 N n v1 v4 v5
  | 0, _, _, _ => rfl
  | n + 1, v1, v4, v5 => by
    have h : impl_intss_e0 N n v1 = impl_intss_l0 N n v1 := by funext v4 v5; exact impl_intss_t0 N n v1 v4 v5
    exact (show impl_intss_e0 N (n + 1) v1 v4 v5 = impl_intss_g0 N v1 (impl_intss_e0 N n v1) v4 v5 from by kernel_rfl).trans (by rw [h]; rfl)
theorem impl_intss_t (N : Nat) (v1 : (List (List Int))) : evF2 (impl_intss_E N) [] Try.f101 [.k (.list (.list (.int .i64)))] [⟨[.row 29 (.list (.int .i64))], [none]⟩] (v1, ()) = impl_intss N v1 := by
  have h0 : (impl_intss_e0 N N) = (impl_intss_l0 N N) := by funext v1 v4 v5; exact impl_intss_t0 N N v1 v4 v5
  exact (show evF2 (impl_intss_E N) [] Try.f101 [.k (.list (.list (.int .i64)))] [⟨[.row 29 (.list (.int .i64))], [none]⟩] (v1, ()) = impl_intss_g N v1 (impl_intss_e0 N N) from by kernel_rfl).trans (by rw [h0]; rfl)
noncomputable def impl_intss_con (N : Nat) : Con2 := ⟨101, [.k (.list (.list (.int .i64)))], [⟨[.row 29 (.list (.int .i64))], [none]⟩], fun x => impl_intss N x.1⟩
theorem impl_intss_s (N : Nat) : (impl_intss_con N).Sound Try.prog :=
  Con2.sound_of (c := impl_intss_con N) (E := (impl_intss_E N)) (idle := []) Try.func101 (by kernel_rfl) (by kernel_rfl) ⟨allNil, (allCons (impl_ints_s N) allNil)⟩ allNil (fun x y h => (impl_intss_t N x.1).trans h)
/-- pub-orthodrome/impl.plain -/
noncomputable def impl_plain_E (N : Nat) : Env := ⟨Try.prog, N, [], [(0, ⟨[], [], [0], [1000000, 1000001, 1000002], none⟩), (1, ⟨[], [], [0, 2], [2, 1000000, 1000001, 1000002], none⟩), (2, ⟨[], [], [0, 2, 3], [2, 3, 100751, 100752, 1000000], none⟩), (3, ⟨[], [], [0, 2, 3, 17], [2, 3, 100751, 100752, 1000000], none⟩), (4, ⟨[], [], [0, 2, 3, 17, 19, 20], [2, 3, 100751, 100752, 1000000], none⟩), (5, ⟨[], [], [0, 2, 3], [], none⟩), (7, ⟨[], [], [0, 2, 3, 17, 23, 24], [2, 3, 100751, 100752, 1000000], none⟩), (8, ⟨[], [], [0, 2, 3], [], none⟩), (10, ⟨[], [], [0, 2, 3, 17, 27, 28], [2, 3, 100751, 100752, 1000000], none⟩), (11, ⟨[], [], [0, 2, 3], [], none⟩), (13, ⟨[], [], [0, 2, 3, 17, 31, 32], [2, 3, 100751, 100752, 1000000], none⟩), (14, ⟨[], [], [0, 2, 3], [2, 3, 100751, 100752, 1000000], none⟩), (16, ⟨[], [], [0, 2, 3, 17, 35, 36], [], none⟩), (17, ⟨[], [], [0, 2, 3], [], none⟩), (19, ⟨[], [], [0, 2, 3, 17, 39, 40], [], none⟩), (20, ⟨[], [], [0, 2, 3], [], none⟩), (22, ⟨[], [], [0, 2, 3, 17, 43, 44], [], none⟩), (23, ⟨[], [], [0, 2, 3], [], none⟩), (25, ⟨[], [], [0, 2, 3, 47, 48], [], none⟩), (26, ⟨[], [], [2, 3, 11], [], none⟩), (27, ⟨[], [], [2, 3, 11], [], none⟩), (28, ⟨[], [], [2, 3, 54, 55, 56], [], none⟩), (29, ⟨[], [], [2, 3, 54, 55, 56], [], none⟩), (30, ⟨[], [], [2, 3, 13, 54, 55, 56], [], none⟩), (31, ⟨[], [], [2, 3, 54, 55, 56], [], none⟩), (32, ⟨[], [], [2, 3], [], none⟩), (33, ⟨[], [], [0, 2, 3], [2, 3, 100751, 100752, 1000000], none⟩), (34, ⟨[], [], [2, 3], [2, 3, 103650, 103800, 103950, 1000000], none⟩)], kdL [], [gogeom_geom0_SRID_con N, gogeom_geom0_Layout_b_con N, gogeom_geom0_FlatCoords_con N, impl_floats_con N, gogeom_geom2_Ends_b_con N, impl_ints_con N, gogeom_geom0_Endss_b_con N, impl_intss_con N]⟩
def impl_plain_g (N : Nat) (v1 : (Int × Int × (List Nat) × Int × (List Int) × Unit)) : Option (((Int × Int × Int × (List Nat) × (List Int) × (List (List Int)) × (List Geo) × Unit) × (Int × Int × (List Nat) × Int × (List Int) × Unit) × Unit)) :=
  ((gogeom_geom0_SRID N (v1.1, v1.2.1, v1.2.2.1, v1.2.2.2.1, v1.2.2.2.2.1, ())).bind fun v2 => ((gogeom_geom0_Layout_b N (v2.2.1.1, v2.2.1.2.1, v2.2.1.2.2.1, v2.2.1.2.2.2.1, v2.2.1.2.2.2.2.1, ())).bind fun v3 => (gogeom_geom0_FlatCoords N (v3.2.1.1, v3.2.1.2.1, v3.2.1.2.2.1, v3.2.1.2.2.2.1, v3.2.1.2.2.2.2.1, ())).bind fun v4 => (impl_floats N v4.1).bind fun v5 => (gogeom_geom2_Ends_b N (v4.2.1.1, v4.2.1.2.1, v4.2.1.2.2.1, v4.2.1.2.2.2.1, v4.2.1.2.2.2.2.1, ())).bind fun v6 => (impl_ints N v6.1).bind fun v7 => (gogeom_geom0_Endss_b N (v6.2.1.1, v6.2.1.2.1, v6.2.1.2.2.1, v6.2.1.2.2.2.1, v6.2.1.2.2.2.2.1, ())).bind fun v8 => (impl_intss N v8.1).bind fun v9 => (some ((3, v3.1, v2.1, v5.1, v7.1, v9.1, ([] : List Geo), ()), (v8.2.1.1, v8.2.1.2.1, v8.2.1.2.2.1, v8.2.1.2.2.2.1, v8.2.1.2.2.2.2.1, ()), ()))))
def impl_plain (N : Nat) (v1 : (Int × Int × (List Nat) × Int × (List Int) × Unit)) : Option (((Int × Int × Int × (List Nat) × (List Int) × (List (List Int)) × (List Geo) × Unit) × (Int × Int × (List Nat) × Int × (List Int) × Unit) × Unit)) :=
  impl_plain_g N v1
set_option maxRecDepth 100000
theorem impl_plain_t (N : Nat) (v1 : (Int × Int × (List Nat) × Int × (List Int) × Unit)) : evF2 (impl_plain_E N) [] Try.f60 [.ifc 125 (.box [.k (.int .i64), .k (.int .i64), .row 35 .float, .k (.int .i64), .row 3 (.int .i64)])] [⟨[.agg [.k (.int .i64), .k (.int .i64), .k (.int .i64), .row 35 .float, .row 3 (.int .i64), .row 29 (.list (.int .i64)), .row 33 .geo]], [some (.ifc 125 (.box [.k (.int .i64), .k (.int .i64), .k (.list .float), .k (.int .i64), .k (.list (.int .i64))]))]⟩] (v1, ()) = impl_plain N v1 := by
  exact (show evF2 (impl_plain_E N) [] Try.f60 [.ifc 125 (.box [.k (.int .i64), .k (.int .i64), .row 35 .float, .k (.int .i64), .row 3 (.int .i64)])] [⟨[.agg [.k (.int .i64), .k (.int .i64), .k (.int .i64), .row 35 .float, .row 3 (.int .i64), .row 29 (.list (.int .i64)), .row 33 .geo]], [some (.ifc 125 (.box [.k (.int .i64), .k (.int .i64), .k (.list .float), .k (.int .i64), .k (.list (.int .i64))]))]⟩] (v1, ()) = impl_plain_g N v1 from by kernel_rfl).trans (by rfl)
noncomputable def impl_plain_con (N : Nat) : Con2 := ⟨60, [.ifc 125 (.box [.k (.int .i64), .k (.int .i64), .row 35 .float, .k (.int .i64), .row 3 (.int .i64)])], [⟨[.agg [.k (.int .i64), .k (.int .i64), .k (.int .i64), .row 35 .float, .row 3 (.int .i64), .row 29 (.list (.int .i64)), .row 33 .geo]], [some (.ifc 125 (.box [.k (.int .i64), .k (.int .i64), .k (.list .float), .k (.int .i64), .k (.list (.int .i64))]))]⟩], fun x => impl_plain N x.1⟩
theorem impl_plain_s (N : Nat) : (impl_plain_con N).Sound Try.prog :=
  Con2.sound_of (c := impl_plain_con N) (E := (impl_plain_E N)) (idle := []) Try.func60 (by kernel_rfl) (by kernel_rfl) ⟨allNil, (allCons (gogeom_geom0_SRID_s N) (allCons (gogeom_geom0_Layout_b_s N) (allCons (gogeom_geom0_FlatCoords_s N) (allCons (impl_floats_s N) (allCons (gogeom_geom2_Ends_b_s N) (allCons (impl_ints_s N) (allCons (gogeom_geom0_Endss_b_s N) (allCons (impl_intss_s N) allNil))))))))⟩ allNil (fun x y h => (impl_plain_t N x.1).trans h)
/-- pub-orthodrome/impl.BoxPolygon -/
noncomputable def impl_BoxPolygon_E (N : Nat) : Env := ⟨Try.prog, N, [], [(0, ⟨[], [], [0], [], none⟩), (1, ⟨[], [], [1, 2, 3], [1, 2, 3], none⟩), (2, ⟨[], [], [1, 2, 3], [1, 2, 3], none⟩)], kdL [], [impl_box_con N, gogeom_Bounds_Polygon_con N, impl_plain_con N]⟩
def impl_BoxPolygon_g (N : Nat) (v1 : (Int × ((List Nat) × ((List Nat) × Unit)))) : Option (((Int × Int × Int × (List Nat) × (List Int) × (List (List Int)) × (List Geo) × Unit) × Bool × Unit)) :=
  ((impl_box N (v1.1, v1.2.1, v1.2.2.1, ())).bind fun v2 => (gogeom_Bounds_Polygon N (v2.1.1, v2.1.2.1, v2.1.2.2.1, ())).bind fun v3 => (impl_plain N (v3.1.1, v3.1.2.1, v3.1.2.2.1, v3.1.2.2.2.1, v3.1.2.2.2.2.1, ())).bind fun v4 => (some ((v4.1.1, v4.1.2.1, v4.1.2.2.1, v4.1.2.2.2.1, v4.1.2.2.2.2.1, v4.1.2.2.2.2.2.1, v4.1.2.2.2.2.2.2.1, ()), true, ())))
def impl_BoxPolygon (N : Nat) (v1 : (Int × ((List Nat) × ((List Nat) × Unit)))) : Option (((Int × Int × Int × (List Nat) × (List Int) × (List (List Int)) × (List Geo) × Unit) × Bool × Unit)) :=
  impl_BoxPolygon_g N v1
set_option maxRecDepth 100000
theorem impl_BoxPolygon_t (N : Nat) (v1 : (Int × ((List Nat) × ((List Nat) × Unit)))) : evF2 (impl_BoxPolygon_E N) [83] Try.f43 [.k (.pair (.int .i64) (.pair (.list .float) (.pair (.list .float) .unit)))] [⟨[.agg [.k (.int .i64), .k (.int .i64), .k (.int .i64), .row 35 .float, .row 3 (.int .i64), .row 29 (.list (.int .i64)), .row 33 .geo], .k .bool], [none]⟩] (v1, ()) = impl_BoxPolygon N v1 := by
  exact (show evF2 (impl_BoxPolygon_E N) [83] Try.f43 [.k (.pair (.int .i64) (.pair (.list .float) (.pair (.list .float) .unit)))] [⟨[.agg [.k (.int .i64), .k (.int .i64), .k (.int .i64), .row 35 .float, .row 3 (.int .i64), .row 29 (.list (.int .i64)), .row 33 .geo], .k .bool], [none]⟩] (v1, ()) = impl_BoxPolygon_g N v1 from by kernel_rfl).trans (by rfl)
noncomputable def impl_BoxPolygon_con (N : Nat) : Con2 := ⟨43, [.k (.pair (.int .i64) (.pair (.list .float) (.pair (.list .float) .unit)))], [⟨[.agg [.k (.int .i64), .k (.int .i64), .k (.int .i64), .row 35 .float, .row 3 (.int .i64), .row 29 (.list (.int .i64)), .row 33 .geo], .k .bool], [none]⟩], fun x => impl_BoxPolygon N x.1⟩
theorem impl_BoxPolygon_s (N : Nat) : (impl_BoxPolygon_con N).Sound Try.prog :=
  Con2.sound_of (c := impl_BoxPolygon_con N) (E := (impl_BoxPolygon_E N)) (idle := [83]) Try.func43 (by kernel_rfl) (by kernel_rfl) ⟨allNil, (allCons (impl_box_s N) (allCons (gogeom_Bounds_Polygon_s N) (allCons (impl_plain_s N) allNil)))⟩ (allCons (idle_of Try.func83 (by kernel_rfl)) allNil) (fun x y h => (impl_BoxPolygon_t N x.1).trans h)
/-- pub-orthodrome/pub/gogeom.NewPointFlat -/
noncomputable def gogeom_NewPointFlat_b_E (N : Nat) : Env := ⟨Try.prog, N, [gogeom_Layout_Stride_con N], [(0, ⟨[], [], [0, 1], [1000000], none⟩), (1, ⟨[], [], [0, 1], [1000000], none⟩), (2, ⟨[], [], [0, 1, 5], [6, 1000000], none⟩), (3, ⟨[], [], [0, 1, 5], [6, 1000000], none⟩), (4, ⟨[], [], [1, 5], [6, 1000000], none⟩), (5, ⟨[], [], [5], [6, 1000000], none⟩)], kdL [], []⟩
def gogeom_NewPointFlat_b_g (N : Nat) (v1 : Int) (v2 : (List Nat)) : Option (((Int × Int × (List Nat) × Int × Unit) × Unit)) :=
  ((gogeom_Layout_Stride N v1).bind fun v3 => (some ((v1, v3, v2, 0, ()), ())))
def gogeom_NewPointFlat_b (N : Nat) (v1 : Int) (v2 : (List Nat)) : Option (((Int × Int × (List Nat) × Int × Unit) × Unit)) :=
  gogeom_NewPointFlat_b_g N v1 v2
set_option maxRecDepth 100000
theorem gogeom_NewPointFlat_b_t (N : Nat) (v1 : Int) (v2 : (List Nat)) : evF2 (gogeom_NewPointFlat_b_E N) [] Try.f105 [.k (.int .i64), .row 35 .float] [⟨[.box [.k (.int .i64), .k (.int .i64), .row 35 .float, .k (.int .i64)]], [none, none]⟩] (v1, v2, ()) = gogeom_NewPointFlat_b N v1 v2 := by
  exact (show evF2 (gogeom_NewPointFlat_b_E N) [] Try.f105 [.k (.int .i64), .row 35 .float] [⟨[.box [.k (.int .i64), .k (.int .i64), .row 35 .float, .k (.int .i64)]], [none, none]⟩] (v1, v2, ()) = gogeom_NewPointFlat_b_g N v1 v2 from by kernel_rfl).trans (by rfl)
noncomputable def gogeom_NewPointFlat_b_con (N : Nat) : Con2 := ⟨105, [.k (.int .i64), .row 35 .float], [⟨[.box [.k (.int .i64), .k (.int .i64), .row 35 .float, .k (.int .i64)]], [none, none]⟩], fun x => gogeom_NewPointFlat_b N x.1 x.2.1⟩
theorem gogeom_NewPointFlat_b_s (N : Nat) : (gogeom_NewPointFlat_b_con N).Sound Try.prog :=
  Con2.sound_of (c := gogeom_NewPointFlat_b_con N) (E := (gogeom_NewPointFlat_b_E N)) (idle := []) Try.func105 (by kernel_rfl) (by kernel_rfl) ⟨(allCons (gogeom_Layout_Stride_s N) allNil), allNil⟩ allNil (fun x y h => (gogeom_NewPointFlat_b_t N x.1 x.2.1).trans h)
/-- (*pub-orthodrome/pub/gogeom.Point).SetSRID -/
noncomputable def gogeom_Point_SetSRID_E (N : Nat) : Env := ⟨Try.prog, N, [], [(0, ⟨[], [], [0, 1], [1000000, 1000001], none⟩), (1, ⟨[], [], [0, 1], [1000000, 1000001], none⟩), (2, ⟨[], [], [0], [1000000, 1000001], none⟩)], kdL [], []⟩
def gogeom_Point_SetSRID_g (N : Nat) (v1 : (Int × Int × (List Nat) × Int × Unit)) (v2 : Int) : Option ((Unit × (Int × Int × (List Nat) × Int × Unit) × Unit)) :=
  (some ((), (v1.1, v1.2.1, v1.2.2.1, v2, ()), ()))
def gogeom_Point_SetSRID (N : Nat) (v1 : (Int × Int × (List Nat) × Int × Unit)) (v2 : Int) : Option ((Unit × (Int × Int × (List Nat) × Int × Unit) × Unit)) :=
  gogeom_Point_SetSRID_g N v1 v2
set_option maxRecDepth 100000
theorem gogeom_Point_SetSRID_t (N : Nat) (v1 : (Int × Int × (List Nat) × Int × Unit)) (v2 : Int) : evF2 (gogeom_Point_SetSRID_E N) [] Try.f106 [.box [.k (.int .i64), .k (.int .i64), .row 35 .float, .k (.int .i64)], .k (.int .i64)] [⟨[.par 0], [some (.box [.k (.int .i64), .k (.int .i64), .row 35 .float, .k (.int .i64)]), none]⟩] (v1, v2, ()) = gogeom_Point_SetSRID N v1 v2 := by
  exact (show evF2 (gogeom_Point_SetSRID_E N) [] Try.f106 [.box [.k (.int .i64), .k (.int .i64), .row 35 .float, .k (.int .i64)], .k (.int .i64)] [⟨[.par 0], [some (.box [.k (.int .i64), .k (.int .i64), .row 35 .float, .k (.int .i64)]), none]⟩] (v1, v2, ()) = gogeom_Point_SetSRID_g N v1 v2 from by kernel_rfl).trans (by rfl)
noncomputable def gogeom_Point_SetSRID_con (N : Nat) : Con2 := ⟨106, [.box [.k (.int .i64), .k (.int .i64), .row 35 .float, .k (.int .i64)], .k (.int .i64)], [⟨[.par 0], [some (.box [.k (.int .i64), .k (.int .i64), .row 35 .float, .k (.int .i64)]), none]⟩], fun x => gogeom_Point_SetSRID N x.1 x.2.1⟩
theorem gogeom_Point_SetSRID_s (N : Nat) : (gogeom_Point_SetSRID_con N).Sound Try.prog :=
  Con2.sound_of (c := gogeom_Point_SetSRID_con N) (E := (gogeom_Point_SetSRID_E N)) (idle := []) Try.func106 (by kernel_rfl) (by kernel_rfl) ⟨allNil, allNil⟩ allNil (fun x y h => (gogeom_Point_SetSRID_t N x.1 x.2.1).trans h)
/-- pub-orthodrome/pub/gogeom.NewLineStringFlat -/
noncomputable def gogeom_NewLineStringFlat_b_E (N : Nat) : Env := ⟨Try.prog, N, [gogeom_Layout_Stride_con N], [(0, ⟨[], [], [0, 1], [1000000], none⟩), (1, ⟨[], [], [0, 1], [1000000], none⟩), (2, ⟨[], [], [0, 1, 5], [6, 1000000], none⟩), (3, ⟨[], [], [0, 1, 5], [6, 1000000], none⟩), (4, ⟨[], [], [1, 5], [6, 1000000], none⟩), (5, ⟨[], [], [5], [6, 1000000], none⟩)], kdL [], []⟩
def gogeom_NewLineStringFlat_b_g (N : Nat) (v1 : Int) (v2 : (List Nat)) : Option (((Int × Int × (List Nat) × Int × Unit) × Unit)) :=
  ((gogeom_Layout_Stride N v1).bind fun v3 => (some ((v1, v3, v2, 0, ()), ())))
def gogeom_NewLineStringFlat_b (N : Nat) (v1 : Int) (v2 : (List Nat)) : Option (((Int × Int × (List Nat) × Int × Unit) × Unit)) :=
  gogeom_NewLineStringFlat_b_g N v1 v2
set_option maxRecDepth 100000
theorem gogeom_NewLineStringFlat_b_t (N : Nat) (v1 : Int) (v2 : (List Nat)) : evF2 (gogeom_NewLineStringFlat_b_E N) [] Try.f93 [.k (.int .i64), .row 35 .float] [⟨[.box [.k (.int .i64), .k (.int .i64), .row 35 .float, .k (.int .i64)]], [none, none]⟩] (v1, v2, ()) = gogeom_NewLineStringFlat_b N v1 v2 := by
  exact (show evF2 (gogeom_NewLineStringFlat_b_E N) [] Try.f93 [.k (.int .i64), .row 35 .float] [⟨[.box [.k (.int .i64), .k (.int .i64), .row 35 .float, .k (.int .i64)]], [none, none]⟩] (v1, v2, ()) = gogeom_NewLineStringFlat_b_g N v1 v2 from by kernel_rfl).trans (by rfl)
noncomputable def gogeom_NewLineStringFlat_b_con (N : Nat) : Con2 := ⟨93, [.k (.int .i64), .row 35 .float], [⟨[.box [.k (.int .i64), .k (.int .i64), .row 35 .float, .k (.int .i64)]], [none, none]⟩], fun x => gogeom_NewLineStringFlat_b N x.1 x.2.1⟩
theorem gogeom_NewLineStringFlat_b_s (N : Nat) : (gogeom_NewLineStringFlat_b_con N).Sound Try.prog :=
  Con2.sound_of (c := gogeom_NewLineStringFlat_b_con N) (E := (gogeom_NewLineStringFlat_b_E N)) (idle := []) Try.func93 (by kernel_rfl) (by kernel_rfl) ⟨(allCons (gogeom_Layout_Stride_s N) allNil), allNil⟩ allNil (fun x y h => (gogeom_NewLineStringFlat_b_t N x.1 x.2.1).trans h)
/-- (*pub-orthodrome/pub/gogeom.LineString).SetSRID -/
noncomputable def gogeom_LineString_SetSRID_E (N : Nat) : Env := ⟨Try.prog, N, [], [(0, ⟨[], [], [0, 1], [1000000, 1000001], none⟩), (1, ⟨[], [], [0, 1], [1000000, 1000001], none⟩), (2, ⟨[], [], [0], [1000000, 1000001], none⟩)], kdL [], []⟩
def gogeom_LineString_SetSRID_g (N : Nat) (v1 : (Int × Int × (List Nat) × Int × Unit)) (v2 : Int) : Option ((Unit × (Int × Int × (List Nat) × Int × Unit) × Unit)) :=
  (some ((), (v1.1, v1.2.1, v1.2.2.1, v2, ()), ()))
def gogeom_LineString_SetSRID (N : Nat) (v1 : (Int × Int × (List Nat) × Int × Unit)) (v2 : Int) : Option ((Unit × (Int × Int × (List Nat) × Int × Unit) × Unit)) :=
  gogeom_LineString_SetSRID_g N v1 v2
set_option maxRecDepth 100000
theorem gogeom_LineString_SetSRID_t (N : Nat) (v1 : (Int × Int × (List Nat) × Int × Unit)) (v2 : Int) : evF2 (gogeom_LineString_SetSRID_E N) [] Try.f107 [.box [.k (.int .i64), .k (.int .i64), .row 35 .float, .k (.int .i64)], .k (.int .i64)] [⟨[.par 0], [some (.box [.k (.int .i64), .k (.int .i64), .row 35 .float, .k (.int .i64)]), none]⟩] (v1, v2, ()) = gogeom_LineString_SetSRID N v1 v2 := by
  exact (show evF2 (gogeom_LineString_SetSRID_E N) [] Try.f107 [.box [.k (.int .i64), .k (.int .i64), .row 35 .float, .k (.int .i64)], .k (.int .i64)] [⟨[.par 0], [some (.box [.k (.int .i64), .k (.int .i64), .row 35 .float, .k (.int .i64)]), none]⟩] (v1, v2, ()) = gogeom_LineString_SetSRID_g N v1 v2 from by kernel_rfl).trans (by rfl)
noncomputable def gogeom_LineString_SetSRID_con (N : Nat) : Con2 := ⟨107, [.box [.k (.int .i64), .k (.int .i64), .row 35 .float, .k (.int .i64)], .k (.int .i64)], [⟨[.par 0], [some (.box [.k (.int .i64), .k (.int .i64), .row 35 .float, .k (.int .i64)]), none]⟩], fun x => gogeom_LineString_SetSRID N x.1 x.2.1⟩
theorem gogeom_LineString_SetSRID_s (N : Nat) : (gogeom_LineString_SetSRID_con N).Sound Try.prog :=
  Con2.sound_of (c := gogeom_LineString_SetSRID_con N) (E := (gogeom_LineString_SetSRID_E N)) (idle := []) Try.func107 (by kernel_rfl) (by kernel_rfl) ⟨allNil, allNil⟩ allNil (fun x y h => (gogeom_LineString_SetSRID_t N x.1 x.2.1).trans h)
/-- pub-orthodrome/pub/gogeom.NewLinearRingFlat -/
noncomputable def gogeom_NewLinearRingFlat_b_E (N : Nat) : Env := ⟨Try.prog, N, [gogeom_Layout_Stride_con N], [(0, ⟨[], [], [0, 1], [1000000], none⟩), (1, ⟨[], [], [0, 1], [1000000], none⟩), (2, ⟨[], [], [0, 1, 5], [6, 1000000], none⟩), (3, ⟨[], [], [0, 1, 5], [6, 1000000], none⟩), (4, ⟨[], [], [1, 5], [6, 1000000], none⟩), (5, ⟨[], [], [5], [6, 1000000], none⟩)], kdL [], []⟩
def gogeom_NewLinearRingFlat_b_g (N : Nat) (v1 : Int) (v2 : (List Nat)) : Option (((Int × Int × (List Nat) × Int × Unit) × Unit)) :=
  ((gogeom_Layout_Stride N v1).bind fun v3 => (some ((v1, v3, v2, 0, ()), ())))
def gogeom_NewLinearRingFlat_b (N : Nat) (v1 : Int) (v2 : (List Nat)) : Option (((Int × Int × (List Nat) × Int × Unit) × Unit)) :=
  gogeom_NewLinearRingFlat_b_g N v1 v2
set_option maxRecDepth 100000
theorem gogeom_NewLinearRingFlat_b_t (N : Nat) (v1 : Int) (v2 : (List Nat)) : evF2 (gogeom_NewLinearRingFlat_b_E N) [] Try.f95 [.k (.int .i64), .row 35 .float] [⟨[.box [.k (.int .i64), .k (.int .i64), .row 35 .float, .k (.int .i64)]], [none, none]⟩] (v1, v2, ()) = gogeom_NewLinearRingFlat_b N v1 v2 := by
  exact (show evF2 (gogeom_NewLinearRingFlat_b_E N) [] Try.f95 [.k (.int .i64), .row 35 .float] [⟨[.box [.k (.int .i64), .k (.int .i64), .row 35 .float, .k (.int .i64)]], [none, none]⟩] (v1, v2, ()) = gogeom_NewLinearRingFlat_b_g N v1 v2 from by kernel_rfl).trans (by rfl)
noncomputable def gogeom_NewLinearRingFlat_b_con (N : Nat) : Con2 := ⟨95, [.k (.int .i64), .row 35 .float], [⟨[.box [.k (.int .i64), .k (.int .i64), .row 35 .float, .k (.int .i64)]], [none, none]⟩], fun x => gogeom_NewLinearRingFlat_b N x.1 x.2.1⟩
theorem gogeom_NewLinearRingFlat_b_s (N : Nat) : (gogeom_NewLinearRingFlat_b_con N).Sound Try.prog :=
  Con2.sound_of (c := gogeom_NewLinearRingFlat_b_con N) (E := (gogeom_NewLinearRingFlat_b_E N)) (idle := []) Try.func95 (by kernel_rfl) (by kernel_rfl) ⟨(allCons (gogeom_Layout_Stride_s N) allNil), allNil⟩ allNil (fun x y h => (gogeom_NewLinearRingFlat_b_t N x.1 x.2.1).trans h)
/-- (*pub-orthodrome/pub/gogeom.LinearRing).SetSRID -/
noncomputable def gogeom_LinearRing_SetSRID_E (N : Nat) : Env := ⟨Try.prog, N, [], [(0, ⟨[], [], [0, 1], [1000000, 1000001], none⟩), (1, ⟨[], [], [0, 1], [1000000, 1000001], none⟩), (2, ⟨[], [], [0], [1000000, 1000001], none⟩)], kdL [], []⟩
def gogeom_LinearRing_SetSRID_g (N : Nat) (v1 : (Int × Int × (List Nat) × Int × Unit)) (v2 : Int) : Option ((Unit × (Int × Int × (List Nat) × Int × Unit) × Unit)) :=
  (some ((), (v1.1, v1.2.1, v1.2.2.1, v2, ()), ()))
def gogeom_LinearRing_SetSRID (N : Nat) (v1 : (Int × Int × (List Nat) × Int × Unit)) (v2 : Int) : Option ((Unit × (Int × Int × (List Nat) × Int × Unit) × Unit)) :=
  gogeom_LinearRing_SetSRID_g N v1 v2
set_option maxRecDepth 100000
theorem gogeom_LinearRing_SetSRID_t (N : Nat) (v1 : (Int × Int × (List Nat) × Int × Unit)) (v2 : Int) : evF2 (gogeom_LinearRing_SetSRID_E N) [] Try.f108 [.box [.k (.int .i64), .k (.int .i64), .row 35 .float, .k (.int .i64)], .k (.int .i64)] [⟨[.par 0], [some (.box [.k (.int .i64), .k (.int .i64), .row 35 .float, .k (.int .i64)]), none]⟩] (v1, v2, ()) = gogeom_LinearRing_SetSRID N v1 v2 := by
  exact (show evF2 (gogeom_LinearRing_SetSRID_E N) [] Try.f108 [.box [.k (.int .i64), .k (.int .i64), .row 35 .float, .k (.int .i64)], .k (.int .i64)] [⟨[.par 0], [some (.box [.k (.int .i64), .k (.int .i64), .row 35 .float, .k (.int .i64)]), none]⟩] (v1, v2, ()) = gogeom_LinearRing_SetSRID_g N v1 v2 from by kernel_rfl).trans (by rfl)
noncomputable def gogeom_LinearRing_SetSRID_con (N : Nat) : Con2 := ⟨108, [.box [.k (.int .i64), .k (.int .i64), .row 35 .float, .k (.int .i64)], .k (.int .i64)], [⟨[.par 0], [some (.box [.k (.int .i64), .k (.int .i64), .row 35 .float, .k (.int .i64)]), none]⟩], fun x => gogeom_LinearRing_SetSRID N x.1 x.2.1⟩
theorem gogeom_LinearRing_SetSRID_s (N : Nat) : (gogeom_LinearRing_SetSRID_con N).Sound Try.prog :=
  Con2.sound_of (c := gogeom_LinearRing_SetSRID_con N) (E := (gogeom_LinearRing_SetSRID_E N)) (idle := []) Try.func108 (by kernel_rfl) (by kernel_rfl) ⟨allNil, allNil⟩ allNil (fun x y h => (gogeom_LinearRing_SetSRID_t N x.1 x.2.1).trans h)
/-- (*pub-orthodrome/pub/gogeom.Polygon).SetSRID -/
noncomputable def gogeom_Polygon_SetSRID_E (N : Nat) : Env := ⟨Try.prog, N, [], [(0, ⟨[], [], [0, 1], [1000000, 1000001, 1000002], none⟩), (1, ⟨[], [], [0, 1], [1000000, 1000001, 1000002], none⟩), (2, ⟨[], [], [0], [1000000, 1000001, 1000002], none⟩)], kdL [], []⟩
def gogeom_Polygon_SetSRID_g (N : Nat) (v1 : (Int × Int × (List Nat) × Int × (List Int) × Unit)) (v2 : Int) : Option ((Unit × (Int × Int × (List Nat) × Int × (List Int) × Unit) × Unit)) :=
  (some ((), (v1.1, v1.2.1, v1.2.2.1, v2, v1.2.2.2.2.1, ()), ()))
def gogeom_Polygon_SetSRID (N : Nat) (v1 : (Int × Int × (List Nat) × Int × (List Int) × Unit)) (v2 : Int) : Option ((Unit × (Int × Int × (List Nat) × Int × (List Int) × Unit) × Unit)) :=
  gogeom_Polygon_SetSRID_g N v1 v2
set_option maxRecDepth 100000
theorem gogeom_Polygon_SetSRID_t (N : Nat) (v1 : (Int × Int × (List Nat) × Int × (List Int) × Unit)) (v2 : Int) : evF2 (gogeom_Polygon_SetSRID_E N) [] Try.f110 [.box [.k (.int .i64), .k (.int .i64), .row 35 .float, .k (.int .i64), .row 3 (.int .i64)], .k (.int .i64)] [⟨[.par 0], [some (.box [.k (.int .i64), .k (.int .i64), .row 35 .float, .k (.int .i64), .row 3 (.int .i64)]), none]⟩] (v1, v2, ()) = gogeom_Polygon_SetSRID N v1 v2 := by
  exact (show evF2 (gogeom_Polygon_SetSRID_E N) [] Try.f110 [.box [.k (.int .i64), .k (.int .i64), .row 35 .float, .k (.int .i64), .row 3 (.int .i64)], .k (.int .i64)] [⟨[.par 0], [some (.box [.k (.int .i64), .k (.int .i64), .row 35 .float, .k (.int .i64), .row 3 (.int .i64)]), none]⟩] (v1, v2, ()) = gogeom_Polygon_SetSRID_g N v1 v2 from by kernel_rfl).trans (by rfl)
noncomputable def gogeom_Polygon_SetSRID_con (N : Nat) : Con2 := ⟨110, [.box [.k (.int .i64), .k (.int .i64), .row 35 .float, .k (.int .i64), .row 3 (.int .i64)], .k (.int .i64)], [⟨[.par 0], [some (.box [.k (.int .i64), .k (.int .i64), .row 35 .float, .k (.int .i64), .row 3 (.int .i64)]), none]⟩], fun x => gogeom_Polygon_SetSRID N x.1 x.2.1⟩
theorem gogeom_Polygon_SetSRID_s (N : Nat) : (gogeom_Polygon_SetSRID_con N).Sound Try.prog :=
  Con2.sound_of (c := gogeom_Polygon_SetSRID_con N) (E := (gogeom_Polygon_SetSRID_E N)) (idle := []) Try.func110 (by kernel_rfl) (by kernel_rfl) ⟨allNil, allNil⟩ allNil (fun x y h => (gogeom_Polygon_SetSRID_t N x.1 x.2.1).trans h)
/-- pub-orthodrome/pub/gogeom.NewMultiPointFlatOptionWithEnds -/
noncomputable def gogeom_NewMultiPointFlatOptionWithEnds_b_E (N : Nat) : Env := ⟨Try.prog, N, [], [(0, ⟨[], [], [0], [1000000], none⟩), (1, ⟨[], [], [1], [1, 1000000], none⟩)], kdL [], []⟩
def gogeom_NewMultiPointFlatOptionWithEnds_b_g (N : Nat) (v1 : (List Int)) : Option (((((List Int) × Unit) × Unit) × Unit)) :=
  (some (((v1, ()), ()), ()))
def gogeom_NewMultiPointFlatOptionWithEnds_b (N : Nat) (v1 : (List Int)) : Option (((((List Int) × Unit) × Unit) × Unit)) :=
  gogeom_NewMultiPointFlatOptionWithEnds_b_g N v1
set_option maxRecDepth 100000
theorem gogeom_NewMultiPointFlatOptionWithEnds_b_t (N : Nat) (v1 : (List Int)) : evF2 (gogeom_NewMultiPointFlatOptionWithEnds_b_E N) [] Try.f111 [.row 3 (.int .i64)] [⟨[.fn 136 [.box [.row 3 (.int .i64)]]], [none]⟩] (v1, ()) = gogeom_NewMultiPointFlatOptionWithEnds_b N v1 := by
  exact (show evF2 (gogeom_NewMultiPointFlatOptionWithEnds_b_E N) [] Try.f111 [.row 3 (.int .i64)] [⟨[.fn 136 [.box [.row 3 (.int .i64)]]], [none]⟩] (v1, ()) = gogeom_NewMultiPointFlatOptionWithEnds_b_g N v1 from by kernel_rfl).trans (by rfl)
noncomputable def gogeom_NewMultiPointFlatOptionWithEnds_b_con (N : Nat) : Con2 := ⟨111, [.row 3 (.int .i64)], [⟨[.fn 136 [.box [.row 3 (.int .i64)]]], [none]⟩], fun x => gogeom_NewMultiPointFlatOptionWithEnds_b N x.1⟩
theorem gogeom_NewMultiPointFlatOptionWithEnds_b_s (N : Nat) : (gogeom_NewMultiPointFlatOptionWithEnds_b_con N).Sound Try.prog :=
  Con2.sound_of (c := gogeom_NewMultiPointFlatOptionWithEnds_b_con N) (E := (gogeom_NewMultiPointFlatOptionWithEnds_b_E N)) (idle := []) Try.func111 (by kernel_rfl) (by kernel_rfl) ⟨allNil, allNil⟩ allNil (fun x y h => (gogeom_NewMultiPointFlatOptionWithEnds_b_t N x.1).trans h)
/-- pub-orthodrome/pub/gogeom.NewMultiLineStringFlat -/
noncomputable def gogeom_NewMultiLineStringFlat_b_E (N : Nat) : Env := ⟨Try.prog, N, [gogeom_Layout_Stride_con N], [(0, ⟨[], [], [0, 1, 2], [1000000, 1000001], none⟩), (1, ⟨[], [], [0, 1, 2], [1000000, 1000001], none⟩), (2, ⟨[], [], [0, 1, 2, 7], [8, 1000000, 1000001], none⟩), (3, ⟨[], [], [0, 1, 2, 7], [8, 1000000, 1000001], none⟩), (4, ⟨[], [], [1, 2, 7], [8, 1000000, 1000001], none⟩), (5, ⟨[], [], [2, 7], [8, 1000000, 1000001], none⟩), (6, ⟨[], [], [7], [8, 1000000, 1000001], none⟩)], kdL [], []⟩
def gogeom_NewMultiLineStringFlat_b_g (N : Nat) (v1 : Int) (v2 : (List Nat)) (v3 : (List Int)) : Option (((Int × Int × (List Nat) × Int × (List Int) × Unit) × Unit)) :=
  ((gogeom_Layout_Stride N v1).bind fun v4 => (some ((v1, v4, v2, 0, v3, ()), ())))
def gogeom_NewMultiLineStringFlat_b (N : Nat) (v1 : Int) (v2 : (List Nat)) (v3 : (List Int)) : Option (((Int × Int × (List Nat) × Int × (List Int) × Unit) × Unit)) :=
  gogeom_NewMultiLineStringFlat_b_g N v1 v2 v3
set_option maxRecDepth 100000
theorem gogeom_NewMultiLineStringFlat_b_t (N : Nat) (v1 : Int) (v2 : (List Nat)) (v3 : (List Int)) : evF2 (gogeom_NewMultiLineStringFlat_b_E N) [] Try.f113 [.k (.int .i64), .row 35 .float, .row 3 (.int .i64)] [⟨[.box [.k (.int .i64), .k (.int .i64), .row 35 .float, .k (.int .i64), .row 3 (.int .i64)]], [none, none, none]⟩] (v1, v2, v3, ()) = gogeom_NewMultiLineStringFlat_b N v1 v2 v3 := by
  exact (show evF2 (gogeom_NewMultiLineStringFlat_b_E N) [] Try.f113 [.k (.int .i64), .row 35 .float, .row 3 (.int .i64)] [⟨[.box [.k (.int .i64), .k (.int .i64), .row 35 .float, .k (.int .i64), .row 3 (.int .i64)]], [none, none, none]⟩] (v1, v2, v3, ()) = gogeom_NewMultiLineStringFlat_b_g N v1 v2 v3 from by kernel_rfl).trans (by rfl)
noncomputable def gogeom_NewMultiLineStringFlat_b_con (N : Nat) : Con2 := ⟨113, [.k (.int .i64), .row 35 .float, .row 3 (.int .i64)], [⟨[.box [.k (.int .i64), .k (.int .i64), .row 35 .float, .k (.int .i64), .row 3 (.int .i64)]], [none, none, none]⟩], fun x => gogeom_NewMultiLineStringFlat_b N x.1 x.2.1 x.2.2.1⟩
theorem gogeom_NewMultiLineStringFlat_b_s (N : Nat) : (gogeom_NewMultiLineStringFlat_b_con N).Sound Try.prog :=
  Con2.sound_of (c := gogeom_NewMultiLineStringFlat_b_con N) (E := (gogeom_NewMultiLineStringFlat_b_E N)) (idle := []) Try.func113 (by kernel_rfl) (by kernel_rfl) ⟨(allCons (gogeom_Layout_Stride_s N) allNil), allNil⟩ allNil (fun x y h => (gogeom_NewMultiLineStringFlat_b_t N x.1 x.2.1 x.2.2.1).trans h)
/-- (*pub-orthodrome/pub/gogeom.MultiLineString).SetSRID -/
noncomputable def gogeom_MultiLineString_SetSRID_E (N : Nat) : Env := ⟨Try.prog, N, [], [(0, ⟨[], [], [0, 1], [1000000, 1000001, 1000002], none⟩), (1, ⟨[], [], [0, 1], [1000000, 1000001, 1000002], none⟩), (2, ⟨[], [], [0], [1000000, 1000001, 1000002], none⟩)], kdL [], []⟩
def gogeom_MultiLineString_SetSRID_g (N : Nat) (v1 : (Int × Int × (List Nat) × Int × (List Int) × Unit)) (v2 : Int) : Option ((Unit × (Int × Int × (List Nat) × Int × (List Int) × Unit) × Unit)) :=
  (some ((), (v1.1, v1.2.1, v1.2.2.1, v2, v1.2.2.2.2.1, ()), ()))
def gogeom_MultiLineString_SetSRID (N : Nat) (v1 : (Int × Int × (List Nat) × Int × (List Int) × Unit)) (v2 : Int) : Option ((Unit × (Int × Int × (List Nat) × Int × (List Int) × Unit) × Unit)) :=
  gogeom_MultiLineString_SetSRID_g N v1 v2
set_option maxRecDepth 100000
theorem gogeom_MultiLineString_SetSRID_t (N : Nat) (v1 : (Int × Int × (List Nat) × Int × (List Int) × Unit)) (v2 : Int) : evF2 (gogeom_MultiLineString_SetSRID_E N) [] Try.f114 [.box [.k (.int .i64), .k (.int .i64), .row 35 .float, .k (.int .i64), .row 3 (.int .i64)], .k (.int .i64)] [⟨[.par 0], [some (.box [.k (.int .i64), .k (.int .i64), .row 35 .float, .k (.int .i64), .row 3 (.int .i64)]), none]⟩] (v1, v2, ()) = gogeom_MultiLineString_SetSRID N v1 v2 := by
  exact (show evF2 (gogeom_MultiLineString_SetSRID_E N) [] Try.f114 [.box [.k (.int .i64), .k (.int .i64), .row 35 .float, .k (.int .i64), .row 3 (.int .i64)], .k (.int .i64)] [⟨[.par 0], [some (.box [.k (.int .i64), .k (.int .i64), .row 35 .float, .k (.int .i64), .row 3 (.int .i64)]), none]⟩] (v1, v2, ()) = gogeom_MultiLineString_SetSRID_g N v1 v2 from by kernel_rfl).trans (by rfl)
noncomputable def gogeom_MultiLineString_SetSRID_con (N : Nat) : Con2 := ⟨114, [.box [.k (.int .i64), .k (.int .i64), .row 35 .float, .k (.int .i64), .row 3 (.int .i64)], .k (.int .i64)], [⟨[.par 0], [some (.box [.k (.int .i64), .k (.int .i64), .row 35 .float, .k (.int .i64), .row 3 (.int .i64)]), none]⟩], fun x => gogeom_MultiLineString_SetSRID N x.1 x.2.1⟩
theorem gogeom_MultiLineString_SetSRID_s (N : Nat) : (gogeom_MultiLineString_SetSRID_con N).Sound Try.prog :=
  Con2.sound_of (c := gogeom_MultiLineString_SetSRID_con N) (E := (gogeom_MultiLineString_SetSRID_E N)) (idle := []) Try.func114 (by kernel_rfl) (by kernel_rfl) ⟨allNil, allNil⟩ allNil (fun x y h => (gogeom_MultiLineString_SetSRID_t N x.1 x.2.1).trans h)
/-- pub-orthodrome/pub/gogeom.NewMultiPolygonFlat -/
noncomputable def gogeom_NewMultiPolygonFlat_E (N : Nat) : Env := ⟨Try.prog, N, [gogeom_Layout_Stride_con N], [(0, ⟨[], [], [0, 1, 2], [], none⟩), (1, ⟨[], [], [0, 1, 2], [], none⟩), (2, ⟨[], [], [0, 1, 2, 7], [8], none⟩), (3, ⟨[], [], [0, 1, 2, 7], [8], none⟩), (4, ⟨[], [], [1, 2, 7], [8], none⟩), (5, ⟨[], [], [2, 7], [8], none⟩), (6, ⟨[], [], [7], [8], none⟩)], kdL [], []⟩
def gogeom_NewMultiPolygonFlat_g (N : Nat) (v1 : Int) (v2 : (List Nat)) (v3 : (List (List Int))) : Option (((Int × Int × (List Nat) × Int × (List (List Int)) × Unit) × Unit)) :=
  ((gogeom_Layout_Stride N v1).bind fun v4 => (some ((v1, v4, v2, 0, v3, ()), ())))
def gogeom_NewMultiPolygonFlat (N : Nat) (v1 : Int) (v2 : (List Nat)) (v3 : (List (List Int))) : Option (((Int × Int × (List Nat) × Int × (List (List Int)) × Unit) × Unit)) :=
  gogeom_NewMultiPolygonFlat_g N v1 v2 v3
set_option maxRecDepth 100000
theorem gogeom_NewMultiPolygonFlat_t (N : Nat) (v1 : Int) (v2 : (List Nat)) (v3 : (List (List Int))) : evF2 (gogeom_NewMultiPolygonFlat_E N) [] Try.f115 [.k (.int .i64), .k (.list .float), .k (.list (.list (.int .i64)))] [⟨[.box [.k (.int .i64), .k (.int .i64), .k (.list .float), .k (.int .i64), .k (.list (.list (.int .i64)))]], [none, none, none]⟩] (v1, v2, v3, ()) = gogeom_NewMultiPolygonFlat N v1 v2 v3 := by
  exact (show evF2 (gogeom_NewMultiPolygonFlat_E N) [] Try.f115 [.k (.int .i64), .k (.list .float), .k (.list (.list (.int .i64)))] [⟨[.box [.k (.int .i64), .k (.int .i64), .k (.list .float), .k (.int .i64), .k (.list (.list (.int .i64)))]], [none, none, none]⟩] (v1, v2, v3, ()) = gogeom_NewMultiPolygonFlat_g N v1 v2 v3 from by kernel_rfl).trans (by rfl)
noncomputable def gogeom_NewMultiPolygonFlat_con (N : Nat) : Con2 := ⟨115, [.k (.int .i64), .k (.list .float), .k (.list (.list (.int .i64)))], [⟨[.box [.k (.int .i64), .k (.int .i64), .k (.list .float), .k (.int .i64), .k (.list (.list (.int .i64)))]], [none, none, none]⟩], fun x => gogeom_NewMultiPolygonFlat N x.1 x.2.1 x.2.2.1⟩
theorem gogeom_NewMultiPolygonFlat_s (N : Nat) : (gogeom_NewMultiPolygonFlat_con N).Sound Try.prog :=
  Con2.sound_of (c := gogeom_NewMultiPolygonFlat_con N) (E := (gogeom_NewMultiPolygonFlat_E N)) (idle := []) Try.func115 (by kernel_rfl) (by kernel_rfl) ⟨(allCons (gogeom_Layout_Stride_s N) allNil), allNil⟩ allNil (fun x y h => (gogeom_NewMultiPolygonFlat_t N x.1 x.2.1 x.2.2.1).trans h)
/-- (*pub-orthodrome/pub/gogeom.MultiPolygon).SetSRID -/
noncomputable def gogeom_MultiPolygon_SetSRID_E (N : Nat) : Env := ⟨Try.prog, N, [], [(0, ⟨[], [], [0, 1], [1000000], none⟩), (1, ⟨[], [], [0, 1], [1000000], none⟩), (2, ⟨[], [], [0], [1000000], none⟩)], kdL [], []⟩
def gogeom_MultiPolygon_SetSRID_g (N : Nat) (v1 : (Int × Int × (List Nat) × Int × (List (List Int)) × Unit)) (v2 : Int) : Option ((Unit × (Int × Int × (List Nat) × Int × (List (List Int)) × Unit) × Unit)) :=
  (some ((), (v1.1, v1.2.1, v1.2.2.1, v2, v1.2.2.2.2.1, ()), ()))
def gogeom_MultiPolygon_SetSRID (N : Nat) (v1 : (Int × Int × (List Nat) × Int × (List (List Int)) × Unit)) (v2 : Int) : Option ((Unit × (Int × Int × (List Nat) × Int × (List (List Int)) × Unit) × Unit)) :=
  gogeom_MultiPolygon_SetSRID_g N v1 v2
set_option maxRecDepth 100000
theorem gogeom_MultiPolygon_SetSRID_t (N : Nat) (v1 : (Int × Int × (List Nat) × Int × (List (List Int)) × Unit)) (v2 : Int) : evF2 (gogeom_MultiPolygon_SetSRID_E N) [] Try.f116 [.box [.k (.int .i64), .k (.int .i64), .k (.list .float), .k (.int .i64), .k (.list (.list (.int .i64)))], .k (.int .i64)] [⟨[.par 0], [some (.box [.k (.int .i64), .k (.int .i64), .k (.list .float), .k (.int .i64), .k (.list (.list (.int .i64)))]), none]⟩] (v1, v2, ()) = gogeom_MultiPolygon_SetSRID N v1 v2 := by
  exact (show evF2 (gogeom_MultiPolygon_SetSRID_E N) [] Try.f116 [.box [.k (.int .i64), .k (.int .i64), .k (.list .float), .k (.int .i64), .k (.list (.list (.int .i64)))], .k (.int .i64)] [⟨[.par 0], [some (.box [.k (.int .i64), .k (.int .i64), .k (.list .float), .k (.int .i64), .k (.list (.list (.int .i64)))]), none]⟩] (v1, v2, ()) = gogeom_MultiPolygon_SetSRID_g N v1 v2 from by kernel_rfl).trans (by rfl)
noncomputable def gogeom_MultiPolygon_SetSRID_con (N : Nat) : Con2 := ⟨116, [.box [.k (.int .i64), .k (.int .i64), .k (.list .float), .k (.int .i64), .k (.list (.list (.int .i64)))], .k (.int .i64)], [⟨[.par 0], [some (.box [.k (.int .i64), .k (.int .i64), .k (.list .float), .k (.int .i64), .k (.list (.list (.int .i64)))]), none]⟩], fun x => gogeom_MultiPolygon_SetSRID N x.1 x.2.1⟩
theorem gogeom_MultiPolygon_SetSRID_s (N : Nat) : (gogeom_MultiPolygon_SetSRID_con N).Sound Try.prog :=
  Con2.sound_of (c := gogeom_MultiPolygon_SetSRID_con N) (E := (gogeom_MultiPolygon_SetSRID_E N)) (idle := []) Try.func116 (by kernel_rfl) (by kernel_rfl) ⟨allNil, allNil⟩ allNil (fun x y h => (gogeom_MultiPolygon_SetSRID_t N x.1 x.2.1).trans h)
/-- pub-orthodrome/impl.geometry -/
noncomputable def impl_geometry_E (N : Nat) : Env := ⟨Try.prog, N, [], [(0, ⟨[], [], [0], [], none⟩), (1, ⟨[], [], [1, 2], [1], none⟩), (2, ⟨[], [], [1, 2, 3, 4], [1, 100600], none⟩), (3, ⟨[], [], [1, 2, 3, 4, 14], [1, 100600], none⟩), (4, ⟨[], [], [1, 2, 3, 4, 14, 15], [1, 100600], none⟩), (6, ⟨[], [], [1, 2, 3, 4, 14, 24], [1, 100600], none⟩), (8, ⟨[], [], [1, 2, 3, 4, 14, 33], [1, 100600], none⟩), (10, ⟨[], [], [1, 2, 3, 4, 14, 42], [1, 100600], none⟩), (12, ⟨[], [], [1, 2, 3, 4, 14, 54], [1, 100600], none⟩), (14, ⟨[], [], [1, 2, 3, 4, 14, 68], [1, 100600], none⟩), (16, ⟨[], [], [1, 2, 3, 4, 14, 80], [1, 100600], none⟩), (18, ⟨[], [], [1, 2, 3, 92], [1], none⟩), (19, ⟨[], [], [1, 3, 5], [], none⟩), (20, ⟨[], [], [3, 5, 99, 100, 101], [], none⟩), (21, ⟨[], [], [3, 5, 99, 100, 101], [], none⟩), (22, ⟨[], [], [3, 5, 7, 99, 100, 101], [], none⟩), (23, ⟨[], [], [3, 5, 99, 100, 101], [], none⟩), (24, ⟨[], [], [3, 5], [], none⟩), (25, ⟨[], [], [2], [], none⟩)], kdL [], [impl_floats_con N, gogeom_NewPointFlat_b_con N, gogeom_Point_SetSRID_con N, gogeom_NewLineStringFlat_b_con N, gogeom_LineString_SetSRID_con N, gogeom_NewLinearRingFlat_b_con N, gogeom_LinearRing_SetSRID_con N, impl_ints_con N, gogeom_NewPolygonFlat_b_con N, gogeom_Polygon_SetSRID_con N, gogeom_NewMultiPointFlatOptionWithEnds_b_con N, gogeom_NewMultiLineStringFlat_b_con N, gogeom_MultiLineString_SetSRID_con N, impl_intss_con N, gogeom_NewMultiPolygonFlat_con N, gogeom_MultiPolygon_SetSRID_con N]⟩
def impl_geometry_g (N : Nat) (v1 : Geo) : Option (((Int × Int × (List Nat) × Int × Unit) × Unit) ⊕ ((Int × Int × (List Nat) × Int × Unit) × Unit) ⊕ ((Int × Int × (List Nat) × Int × Unit) × Unit) ⊕ ((Int × Int × (List Nat) × Int × (List Int) × Unit) × Unit) ⊕ ((Int × Int × (List Nat) × Int × (List Int) × Unit) × Unit) ⊕ ((Int × Int × (List Nat) × Int × (List (List Int)) × Unit) × Unit)) :=
  ((impl_floats N v1.flat).bind fun v2 => (bif (v1.kind == 1) then ((gogeom_NewPointFlat_b N v1.layout v2.1).bind fun v3 => (gogeom_Point_SetSRID N (v3.1.1, v3.1.2.1, v3.1.2.2.1, v3.1.2.2.2.1, ()) v1.srid).bind fun v4 => (some (Sum.inl ((v4.2.1.1, v4.2.1.2.1, v4.2.1.2.2.1, v4.2.1.2.2.2.1, ()), ())))) else (bif (v1.kind == 2) then ((gogeom_NewLineStringFlat_b N v1.layout v2.1).bind fun v5 => (gogeom_LineString_SetSRID N (v5.1.1, v5.1.2.1, v5.1.2.2.1, v5.1.2.2.2.1, ()) v1.srid).bind fun v6 => (some (Sum.inr (Sum.inl ((v6.2.1.1, v6.2.1.2.1, v6.2.1.2.2.1, v6.2.1.2.2.2.1, ()), ()))))) else (bif (v1.kind == 8) then ((gogeom_NewLinearRingFlat_b N v1.layout v2.1).bind fun v7 => (gogeom_LinearRing_SetSRID N (v7.1.1, v7.1.2.1, v7.1.2.2.1, v7.1.2.2.2.1, ()) v1.srid).bind fun v8 => (some (Sum.inr (Sum.inr (Sum.inl ((v8.2.1.1, v8.2.1.2.1, v8.2.1.2.2.1, v8.2.1.2.2.2.1, ()), ())))))) else (bif (v1.kind == 3) then ((impl_ints N v1.ends).bind fun v9 => (gogeom_NewPolygonFlat_b N v1.layout v2.1 v9.1).bind fun v10 => (gogeom_Polygon_SetSRID N (v10.1.1, v10.1.2.1, v10.1.2.2.1, v10.1.2.2.2.1, v10.1.2.2.2.2.1, ()) v1.srid).bind fun v11 => (some (Sum.inr (Sum.inr (Sum.inr (Sum.inl ((v11.2.1.1, v11.2.1.2.1, v11.2.1.2.2.1, v11.2.1.2.2.2.1, v11.2.1.2.2.2.2.1, ()), ()))))))) else (bif (v1.kind == 4) then ((impl_ints N v1.ends).bind fun v12 => (gogeom_NewMultiPointFlatOptionWithEnds_b N v12.1).bind fun v13 => none) else (bif (v1.kind == 5) then ((impl_ints N v1.ends).bind fun v14 => (gogeom_NewMultiLineStringFlat_b N v1.layout v2.1 v14.1).bind fun v15 => (gogeom_MultiLineString_SetSRID N (v15.1.1, v15.1.2.1, v15.1.2.2.1, v15.1.2.2.2.1, v15.1.2.2.2.2.1, ()) v1.srid).bind fun v16 => (some (Sum.inr (Sum.inr (Sum.inr (Sum.inr (Sum.inl ((v16.2.1.1, v16.2.1.2.1, v16.2.1.2.2.1, v16.2.1.2.2.2.1, v16.2.1.2.2.2.2.1, ()), ())))))))) else (bif (v1.kind == 6) then ((impl_intss N v1.endss).bind fun v17 => (gogeom_NewMultiPolygonFlat N v1.layout v2.1 v17.1).bind fun v18 => (gogeom_MultiPolygon_SetSRID N (v18.1.1, v18.1.2.1, v18.1.2.2.1, v18.1.2.2.2.1, v18.1.2.2.2.2.1, ()) v1.srid).bind fun v19 => (some (Sum.inr (Sum.inr (Sum.inr (Sum.inr (Sum.inr ((v19.2.1.1, v19.2.1.2.1, v19.2.1.2.2.1, v19.2.1.2.2.2.1, v19.2.1.2.2.2.2.1, ()), ())))))))) else (bif (v1.kind == 7) then none else none)))))))))
def impl_geometry (N : Nat) (v1 : Geo) : Option (((Int × Int × (List Nat) × Int × Unit) × Unit) ⊕ ((Int × Int × (List Nat) × Int × Unit) × Unit) ⊕ ((Int × Int × (List Nat) × Int × Unit) × Unit) ⊕ ((Int × Int × (List Nat) × Int × (List Int) × Unit) × Unit) ⊕ ((Int × Int × (List Nat) × Int × (List Int) × Unit) × Unit) ⊕ ((Int × Int × (List Nat) × Int × (List (List Int)) × Unit) × Unit)) :=
  impl_geometry_g N v1
set_option maxRecDepth 100000
theorem impl_geometry_t (N : Nat) (v1 : Geo) : evF2 (impl_geometry_E N) [] Try.f66 [.k .geo] [⟨[.ifc 103 (.box [.k (.int .i64), .k (.int .i64), .row 35 .float, .k (.int .i64)])], [none]⟩, ⟨[.ifc 85 (.box [.k (.int .i64), .k (.int .i64), .row 35 .float, .k (.int .i64)])], [none]⟩, ⟨[.ifc 92 (.box [.k (.int .i64), .k (.int .i64), .row 35 .float, .k (.int .i64)])], [none]⟩, ⟨[.ifc 125 (.box [.k (.int .i64), .k (.int .i64), .row 35 .float, .k (.int .i64), .row 3 (.int .i64)])], [none]⟩, ⟨[.ifc 152 (.box [.k (.int .i64), .k (.int .i64), .row 35 .float, .k (.int .i64), .row 3 (.int .i64)])], [none]⟩, ⟨[.ifc 153 (.box [.k (.int .i64), .k (.int .i64), .k (.list .float), .k (.int .i64), .k (.list (.list (.int .i64)))])], [none]⟩] (v1, ()) = impl_geometry N v1 := by
  exact (show evF2 (impl_geometry_E N) [] Try.f66 [.k .geo] [⟨[.ifc 103 (.box [.k (.int .i64), .k (.int .i64), .row 35 .float, .k (.int .i64)])], [none]⟩, ⟨[.ifc 85 (.box [.k (.int .i64), .k (.int .i64), .row 35 .float, .k (.int .i64)])], [none]⟩, ⟨[.ifc 92 (.box [.k (.int .i64), .k (.int .i64), .row 35 .float, .k (.int .i64)])], [none]⟩, ⟨[.ifc 125 (.box [.k (.int .i64), .k (.int .i64), .row 35 .float, .k (.int .i64), .row 3 (.int .i64)])], [none]⟩, ⟨[.ifc 152 (.box [.k (.int .i64), .k (.int .i64), .row 35 .float, .k (.int .i64), .row 3 (.int .i64)])], [none]⟩, ⟨[.ifc 153 (.box [.k (.int .i64), .k (.int .i64), .k (.list .float), .k (.int .i64), .k (.list (.list (.int .i64)))])], [none]⟩] (v1, ()) = impl_geometry_g N v1 from by kernel_rfl).trans (by rfl)
noncomputable def impl_geometry_con (N : Nat) : Con2 := ⟨66, [.k .geo], [⟨[.ifc 103 (.box [.k (.int .i64), .k (.int .i64), .row 35 .float, .k (.int .i64)])], [none]⟩, ⟨[.ifc 85 (.box [.k (.int .i64), .k (.int .i64), .row 35 .float, .k (.int .i64)])], [none]⟩, ⟨[.ifc 92 (.box [.k (.int .i64), .k (.int .i64), .row 35 .float, .k (.int .i64)])], [none]⟩, ⟨[.ifc 125 (.box [.k (.int .i64), .k (.int .i64), .row 35 .float, .k (.int .i64), .row 3 (.int .i64)])], [none]⟩, ⟨[.ifc 152 (.box [.k (.int .i64), .k (.int .i64), .row 35 .float, .k (.int .i64), .row 3 (.int .i64)])], [none]⟩, ⟨[.ifc 153 (.box [.k (.int .i64), .k (.int .i64), .k (.list .float), .k (.int .i64), .k (.list (.list (.int .i64)))])], [none]⟩], fun x => impl_geometry N x.1⟩
theorem impl_geometry_s (N : Nat) : (impl_geometry_con N).Sound Try.prog :=
  Con2.sound_of (c := impl_geometry_con N) (E := (impl_geometry_E N)) (idle := []) Try.func66 (by kernel_rfl) (by kernel_rfl) ⟨allNil, (allCons (impl_floats_s N) (allCons (gogeom_NewPointFlat_b_s N) (allCons (gogeom_Point_SetSRID_s N) (allCons (gogeom_NewLineStringFlat_b_s N) (allCons (gogeom_LineString_SetSRID_s N) (allCons (gogeom_NewLinearRingFlat_b_s N) (allCons (gogeom_LinearRing_SetSRID_s N) (allCons (impl_ints_s N) (allCons (gogeom_NewPolygonFlat_b_s N) (allCons (gogeom_Polygon_SetSRID_s N) (allCons (gogeom_NewMultiPointFlatOptionWithEnds_b_s N) (allCons (gogeom_NewMultiLineStringFlat_b_s N) (allCons (gogeom_MultiLineString_SetSRID_s N) (allCons (impl_intss_s N) (allCons (gogeom_NewMultiPolygonFlat_s N) (allCons (gogeom_MultiPolygon_SetSRID_s N) allNil))))))))))))))))⟩ allNil (fun x y h => (impl_geometry_t N x.1).trans h)
/-- math.Float64frombits -/
def math_Float64frombits (N : Nat) (v1 : Int) : Option Nat := some (v1 : Int).toNat
noncomputable def math_Float64frombits_con (N : Nat) : Con := ⟨141, [.k (.int .u64)], [.float], fun x => math_Float64frombits N x.1⟩
theorem math_Float64frombits_s (N : Nat) : (math_Float64frombits_con N).Sound Try.prog := frombits_of Try.func141 (by kernel_rfl) (by kernel_rfl) (by kernel_rfl) (by kernel_rfl)
/-- math.Inf -/
noncomputable def math_Inf_E (N : Nat) : Env := ⟨Try.prog, N, [math_Float64frombits_con N], [(0, ⟨[], [], [0], [], none⟩), (1, ⟨[], [], [0], [], none⟩), (2, ⟨[], [], [0], [], none⟩), (3, ⟨[], [], [5], [], none⟩), (5, ⟨[], [], [3], [], some N⟩)], kdL [], []⟩
def math_Inf_g0 (N : Nat) (v2 : Int) : Option (Nat) :=
  (math_Float64frombits N v2).bind fun v3 => (some v3)
def math_Inf_j0 (N : Nat) (v2 : Int) : Option (Nat) :=
  gate N (math_Inf_g0 N v2)
def math_Inf_g (N : Nat) (v1 : Int) (c0 : Int → Option (Nat)) : Option (Nat) :=
  (bif (decide ((v1 : Int) ≥ 0)) then (c0 9218868437227405312) else (c0 18442240474082181120))
def math_Inf (N : Nat) (v1 : Int) : Option (Nat) :=
  math_Inf_g N v1 (math_Inf_j0 N)
set_option maxRecDepth 100000
noncomputable def math_Inf_e0 (N : Nat) (v2 : Int) : Option (HR [.float]) :=
  gate N (evC (math_Inf_E N) (codeAt (bodyOf Try.f142) [1, 1, 1]) ⟨[(3, .pv (.int .u64) v2)], [], []⟩ (kEnd (math_Inf_E N) [] Try.f142.results.toList [.float]))
theorem math_Inf_t0 (N : Nat) (v2 : Int) : math_Inf_e0 N v2 = math_Inf_j0 N v2 := by
  exact (congrArg (gate N) (show evC (math_Inf_E N) (codeAt (bodyOf Try.f142) [1, 1, 1]) ⟨[(3, .pv (.int .u64) v2)], [], []⟩ (kEnd (math_Inf_E N) [] Try.f142.results.toList [.float]) = math_Inf_g0 N v2 from by kernel_rfl)).trans (by rfl)
theorem math_Inf_t (N : Nat) (v1 : Int) : evF (math_Inf_E N) [] Try.f142 [.k (.int .i64)] [.float] (v1, ()) = math_Inf N v1 := by
  have h0 : (math_Inf_e0 N) = (math_Inf_j0 N) := by funext v2; exact math_Inf_t0 N v2
  exact (show evF (math_Inf_E N) [] Try.f142 [.k (.int .i64)] [.float] (v1, ()) = math_Inf_g N v1 (math_Inf_e0 N) from by kernel_rfl).trans (by rw [h0]; rfl)
noncomputable def math_Inf_con (N : Nat) : Con := ⟨142, [.k (.int .i64)], [.float], fun x => math_Inf N x.1⟩
theorem math_Inf_s (N : Nat) : (math_Inf_con N).Sound Try.prog :=
  Con.sound_of (c := math_Inf_con N) (E := (math_Inf_E N)) (idle := []) Try.func142 (by kernel_rfl) (by kernel_rfl) ⟨(allCons (math_Float64frombits_s N) allNil), allNil⟩ allNil (fun x y h => (math_Inf_t N x.1).trans h)
/-- pub-orthodrome/pub/gogeom.NewBounds -/
noncomputable def gogeom_NewBounds_E (N : Nat) : Env := ⟨Try.prog, N, [gogeom_Layout_Stride_con N, math_Inf_con N], [(0, ⟨[], [], [0], [], none⟩), (1, ⟨[], [], [0], [], none⟩), (2, ⟨[], [], [0, 3], [], none⟩), (3, ⟨[], [], [0, 3, 4, 5], [10, 12], none⟩), (4, ⟨[], [], [0, 4, 5, 13, 14], [10, 12], none⟩), (5, ⟨[], [], [0, 4, 5, 13, 14], [10, 12], none⟩), (6, ⟨[], [], [0, 4, 5, 6, 13, 14], [10, 12], none⟩), (7, ⟨[], [], [0, 4, 5, 13, 14], [10, 12], none⟩), (8, ⟨[], [], [0, 4, 5], [10, 12], none⟩)], kdL [(35, .float)], []⟩
def gogeom_NewBounds_g0 (N : Nat) (v1 : Int) (v2 : Int) (r0 : Int → (List Nat) → (List Nat) → Option (((Int × (List Nat) × (List Nat) × Unit) × Unit))) (v9 : Int) (v10 : (List Nat)) (v11 : (List Nat)) : Option (((Int × (List Nat) × (List Nat) × Unit) × Unit)) :=
  (bif (decide ((v9 : Int) < v2)) then ((math_Inf N 1).bind fun v12 => (math_Inf N (-1)).bind fun v13 => (chk v9 v10.length).bind fun v14 => (chk v9 v11.length).bind fun v15 => ((r0 (IntKind.i64.wrap (v9 + 1)) (v10.set v14 v12) (v11.set v15 v13)))) else (some ((v1, v10, v11, ()), ())))
def gogeom_NewBounds_l0 (N : Nat) : Nat → Int → Int → Int → (List Nat) → (List Nat) → Option (((Int × (List Nat) × (List Nat) × Unit) × Unit))
  | 0, _, _, _, _, _ => none
  | n + 1, v1, v2, v9, v10, v11 => gogeom_NewBounds_g0 N v1 v2 (gogeom_NewBounds_l0 N n v1 v2) v9 v10 v11
def gogeom_NewBounds_g (N : Nat) (v1 : Int) (c0 : Int → Int → Int → (List Nat) → (List Nat) → Option (((Int × (List Nat) × (List Nat) × Unit) × Unit))) : Option (((Int × (List Nat) × (List Nat) × Unit) × Unit)) :=
  ((gogeom_Layout_Stride N v1).bind fun v2 => ((mkn v2 v2 8).bind fun v3 => (mkn v2 v2 8).bind fun v4 => ((c0 v1 v2 0 (List.replicate v3 (0 : Nat)) (List.replicate v4 (0 : Nat))))))
def gogeom_NewBounds (N : Nat) (v1 : Int) : Option (((Int × (List Nat) × (List Nat) × Unit) × Unit)) :=
  gogeom_NewBounds_g N v1 (gogeom_NewBounds_l0 N N)
set_option maxRecDepth 100000
noncomputable def gogeom_NewBounds_e0 (N : Nat) (n : Nat) (v1 : Int) (v2 : Int) (v9 : Int) (v10 : (List Nat)) (v11 : (List Nat)) : Option (AltD [⟨[.box [.k (.int .i64), .row 35 .float, .row 35 .float]], [none]⟩]) :=
  loopN (advOf (gogeom_NewBounds_E N) (codeAt (bodyOf Try.f179) [1, 1, 1, 0, 1, 0, 0])) (evC (gogeom_NewBounds_E N) (codeAt (bodyOf Try.f179) [1, 1, 1, 0, 1, 0, 0])) n ⟨[(0, .pv (.int .i64) v1), (4, .own .float 10), (5, .own .float 12), (13, .pv (.int .i64) v2), (14, .pv (.int .i64) v9)], [(10, .arr 35 .float v10), (12, .arr 35 .float v11)], []⟩ (kBlock 0 (kSeq (advOf (gogeom_NewBounds_E N) (codeAt (bodyOf Try.f179) [1, 1, 1, 1])) (evC (gogeom_NewBounds_E N) (codeAt (bodyOf Try.f179) [1, 1, 1, 1])) (kEnd2 (gogeom_NewBounds_E N) [] Try.f179.results.toList [⟨[.box [.k (.int .i64), .row 35 .float, .row 35 .float]], [none]⟩] [.dead])))
theorem gogeom_NewBounds_t0 (N : Nat) : ∀ (n : Nat) (v1 : Int) (v2 : Int) (v9 : Int) (v10 : (List Nat)) (v11 : (List Nat)), gogeom_NewBounds_e0 N n v1 v2 v9 v10 v11 = gogeom_NewBounds_l0 N n v1 v2 v9 v10 v11
  | 0, _, _, _, _, _ => rfl
  | n + 1, v1, v2, v9, v10, v11 => by
    have h : gogeom_NewBounds_e0 N n v1 v2 = gogeom_NewBounds_l0 N n v1 v2 := by funext v9 v10 v11; exact gogeom_NewBounds_t0 N n v1 v2 v9 v10 v11
    exact (show gogeom_NewBounds_e0 N (n + 1) v1 v2 v9 v10 v11 = gogeom_NewBounds_g0 N v1 v2 (gogeom_NewBounds_e0 N n v1 v2) v9 v10 v11 from by kernel_rfl).trans (by rw [h]; rfl)
theorem gogeom_NewBounds_t (N : Nat) (v1 : Int) : evF2 (gogeom_NewBounds_E N) [] Try.f179 [.k (.int .i64)] [⟨[.box [.k (.int .i64), .row 35 .float, .row 35 .float]], [none]⟩] (v1, ()) = gogeom_NewBounds N v1 := by
  have h0 : (gogeom_NewBounds_e0 N N) = (gogeom_NewBounds_l0 N N) := by funext v1 v2 v9 v10 v11; exact gogeom_NewBounds_t0 N N v1 v2 v9 v10 v11
  exact (show evF2 (gogeom_NewBounds_E N) [] Try.f179 [.k (.int .i64)] [⟨[.box [.k (.int .i64), .row 35 .float, .row 35 .float]], [none]⟩] (v1, ()) = gogeom_NewBounds_g N v1 (gogeom_NewBounds_e0 N N) from by kernel_rfl).trans (by rw [h0]; rfl)
noncomputable def gogeom_NewBounds_con (N : Nat) : Con2 := ⟨179, [.k (.int .i64)], [⟨[.box [.k (.int .i64), .row 35 .float, .row 35 .float]], [none]⟩], fun x => gogeom_NewBounds N x.1⟩
theorem gogeom_NewBounds_s (N : Nat) : (gogeom_NewBounds_con N).Sound Try.prog :=
  Con2.sound_of (c := gogeom_NewBounds_con N) (E := (gogeom_NewBounds_E N)) (idle := []) Try.func179 (by kernel_rfl) (by kernel_rfl) ⟨(allCons (gogeom_Layout_Stride_s N) (allCons (math_Inf_s N) allNil)), allNil⟩ allNil (fun x y h => (gogeom_NewBounds_t N x.1).trans h)
/-- math.archMin -/
def math_archMin (N : Nat) (v1 : Nat) (v2 : Nat) : Option Nat := some (fpick true .lt v1 v2)
noncomputable def math_archMin_con (N : Nat) : Con := ⟨130, [.k .float, .k .float], [.float], fun x => math_archMin N x.1 x.2.1⟩
theorem math_archMin_s (N : Nat) : (math_archMin_con N).Sound Try.prog := pick_of (name := "math.archMin") Try.func130 (by kernel_rfl) (by kernel_rfl) (by kernel_rfl) (by kernel_rfl)
/-- math.Min -/
noncomputable def math_Min_E (N : Nat) : Env := ⟨Try.prog, N, [math_archMin_con N], [(0, ⟨[], [], [0, 1], [], none⟩), (1, ⟨[], [], [0, 1], [], none⟩), (2, ⟨[], [], [0, 1], [], none⟩)], kdL [], []⟩
def math_Min_g (N : Nat) (v1 : Nat) (v2 : Nat) : Option (Nat) :=
  ((math_archMin N v1 v2).bind fun v3 => (some v3))
def math_Min (N : Nat) (v1 : Nat) (v2 : Nat) : Option (Nat) :=
  math_Min_g N v1 v2
set_option maxRecDepth 100000
theorem math_Min_t (N : Nat) (v1 : Nat) (v2 : Nat) : evF (math_Min_E N) [] Try.f91 [.k .float, .k .float] [.float] (v1, v2, ()) = math_Min N v1 v2 := by
  exact (show evF (math_Min_E N) [] Try.f91 [.k .float, .k .float] [.float] (v1, v2, ()) = math_Min_g N v1 v2 from by kernel_rfl).trans (by rfl)
noncomputable def math_Min_con (N : Nat) : Con := ⟨91, [.k .float, .k .float], [.float], fun x => math_Min N x.1 x.2.1⟩
theorem math_Min_s (N : Nat) : (math_Min_con N).Sound Try.prog :=
  Con.sound_of (c := math_Min_con N) (E := (math_Min_E N)) (idle := []) Try.func91 (by kernel_rfl) (by kernel_rfl) ⟨(allCons (math_archMin_s N) allNil), allNil⟩ allNil (fun x y h => (math_Min_t N x.1 x.2.1).trans h)
/-- math.archMax -/
def math_archMax (N : Nat) (v1 : Nat) (v2 : Nat) : Option Nat := some (fpick false .gt v1 v2)
noncomputable def math_archMax_con (N : Nat) : Con := ⟨132, [.k .float, .k .float], [.float], fun x => math_archMax N x.1 x.2.1⟩
theorem math_archMax_s (N : Nat) : (math_archMax_con N).Sound Try.prog := pick_of (name := "math.archMax") Try.func132 (by kernel_rfl) (by kernel_rfl) (by kernel_rfl) (by kernel_rfl)
/-- math.Max -/
noncomputable def math_Max_E (N : Nat) : Env := ⟨Try.prog, N, [math_archMax_con N], [(0, ⟨[], [], [0, 1], [], none⟩), (1, ⟨[], [], [0, 1], [], none⟩), (2, ⟨[], [], [0, 1], [], none⟩)], kdL [], []⟩
def math_Max_g (N : Nat) (v1 : Nat) (v2 : Nat) : Option (Nat) :=
  ((math_archMax N v1 v2).bind fun v3 => (some v3))
def math_Max (N : Nat) (v1 : Nat) (v2 : Nat) : Option (Nat) :=
  math_Max_g N v1 v2
set_option maxRecDepth 100000
theorem math_Max_t (N : Nat) (v1 : Nat) (v2 : Nat) : evF (math_Max_E N) [] Try.f92 [.k .float, .k .float] [.float] (v1, v2, ()) = math_Max N v1 v2 := by
  exact (show evF (math_Max_E N) [] Try.f92 [.k .float, .k .float] [.float] (v1, v2, ()) = math_Max_g N v1 v2 from by kernel_rfl).trans (by rfl)
noncomputable def math_Max_con (N : Nat) : Con := ⟨92, [.k .float, .k .float], [.float], fun x => math_Max N x.1 x.2.1⟩
theorem math_Max_s (N : Nat) : (math_Max_con N).Sound Try.prog :=
  Con.sound_of (c := math_Max_con N) (E := (math_Max_E N)) (idle := []) Try.func92 (by kernel_rfl) (by kernel_rfl) ⟨(allCons (math_archMax_s N) allNil), allNil⟩ allNil (fun x y h => (math_Max_t N x.1 x.2.1).trans h)
/-- (*pub-orthodrome/pub/gogeom.Bounds).extendStride -/
noncomputable def gogeom_Bounds_extendStride_E (N : Nat) : Env := ⟨Try.prog, N, [gogeom_Layout_Stride_con N, math_Inf_con N], [(0, ⟨[], [], [0, 1], [1000000, 1000001, 1000002], none⟩), (1, ⟨[], [(1000000, 1, 35, .float, 90150), (1000000, 2, 35, .float, 90151)], [0, 1, 4], [90150, 90151, 1000000], none⟩), (2, ⟨[], [], [0, 1, 4], [22, 32, 1000000], none⟩), (3, ⟨[], [], [0, 1, 4], [90150, 90151, 1000000], none⟩), (4, ⟨[], [], [0, 1, 4], [22, 90151, 1000000], none⟩)], kdL [(35, .float)], []⟩
def gogeom_Bounds_extendStride_g0 (N : Nat) (v2 : Int) (v1 : (Int × (List Nat) × (List Nat) × Unit)) (r0 : Int → (List Nat) → (List Nat) → Option (((Int × (List Nat) × (List Nat) × Unit) × Unit))) (v6 : Int) (v7 : (List Nat)) (v8 : (List Nat)) : Option (((Int × (List Nat) × (List Nat) × Unit) × Unit)) :=
  (bif (decide ((v6 : Int) < v2)) then ((math_Inf N 1).bind fun v9 => (lim ((v7.length + ([v9] : List Nat).length) * 8)).bind fun _ => ((math_Inf N (-1)).bind fun v10 => (lim ((v8.length + ([v10] : List Nat).length) * 8)).bind fun _ => ((r0 (IntKind.i64.wrap (v6 + 1)) (v7 ++ ([v9] : List Nat)) (v8 ++ ([v10] : List Nat)))))) else (some ((v1.1, v7, v8, ()), ())))
def gogeom_Bounds_extendStride_l0 (N : Nat) : Nat → Int → (Int × (List Nat) × (List Nat) × Unit) → Int → (List Nat) → (List Nat) → Option (((Int × (List Nat) × (List Nat) × Unit) × Unit))
  | 0, _, _, _, _, _ => none
  | n + 1, v2, v1, v6, v7, v8 => gogeom_Bounds_extendStride_g0 N v2 v1 (gogeom_Bounds_extendStride_l0 N n v2 v1) v6 v7 v8
def gogeom_Bounds_extendStride_g (N : Nat) (v1 : (Int × (List Nat) × (List Nat) × Unit)) (v2 : Int) (c0 : Int → (Int × (List Nat) × (List Nat) × Unit) → Int → (List Nat) → (List Nat) → Option (((Int × (List Nat) × (List Nat) × Unit) × Unit))) : Option (((Int × (List Nat) × (List Nat) × Unit) × Unit)) :=
  (gogeom_Layout_Stride N v1.1).bind fun v3 => ((c0 v2 v1 v3 v1.2.1 v1.2.2.1))
def gogeom_Bounds_extendStride (N : Nat) (v1 : (Int × (List Nat) × (List Nat) × Unit)) (v2 : Int) : Option (((Int × (List Nat) × (List Nat) × Unit) × Unit)) :=
  gogeom_Bounds_extendStride_g N v1 v2 (gogeom_Bounds_extendStride_l0 N N)
set_option maxRecDepth 100000
noncomputable def gogeom_Bounds_extendStride_e0 (N : Nat) (n : Nat) (v2 : Int) (v1 : (Int × (List Nat) × (List Nat) × Unit)) (v6 : Int) (v7 : (List Nat)) (v8 : (List Nat)) : Option (AltD [⟨[], [some (.box [.k (.int .i64), .row 35 .float, .row 35 .float]), none]⟩]) :=
  loopN (advOf (gogeom_Bounds_extendStride_E N) (codeAt (bodyOf Try.f143) [1, 0, 0])) (evC (gogeom_Bounds_extendStride_E N) (codeAt (bodyOf Try.f143) [1, 0, 0])) n ⟨[(0, .ref 1000000 0), (1, .pv (.int .i64) v2), (4, .pv (.int .i64) v6)], [(90150, .arr 35 .float v7), (90151, .arr 35 .float v8), (1000000, .box [.pv (.int .i64) v1.1, .own .float 90150, .own .float 90151])], []⟩ (kBlock 0 (kEnd2 (gogeom_Bounds_extendStride_E N) [] Try.f143.results.toList [⟨[], [some (.box [.k (.int .i64), .row 35 .float, .row 35 .float]), none]⟩] [.ref 1000000 0, .dead]))
theorem gogeom_Bounds_extendStride_t0 (N : Nat) : ∀ (n : Nat) (v2 : Int) (v1 : (Int × (List Nat) × (List Nat) × Unit)) (v6 : Int) (v7 : (List Nat)) (v8 : (List Nat)), gogeom_Bounds_extendStride_e0 N n v2 v1 v6 v7 v8 = gogeom_Bounds_extendStride_l0 N n v2 v1 v6 v7 v8
  | 0, _, _, _, _, _ => rfl
  | n + 1, v2, v1, v6, v7, v8 => by
    have h : gogeom_Bounds_extendStride_e0 N n v2 v1 = gogeom_Bounds_extendStride_l0 N n v2 v1 := by funext v6 v7 v8; exact gogeom_Bounds_extendStride_t0 N n v2 v1 v6 v7 v8
    exact (show gogeom_Bounds_extendStride_e0 N (n + 1) v2 v1 v6 v7 v8 = gogeom_Bounds_extendStride_g0 N v2 v1 (gogeom_Bounds_extendStride_e0 N n v2 v1) v6 v7 v8 from by kernel_rfl).trans (by rw [h]; rfl)
theorem gogeom_Bounds_extendStride_t (N : Nat) (v1 : (Int × (List Nat) × (List Nat) × Unit)) (v2 : Int) : evF2 (gogeom_Bounds_extendStride_E N) [] Try.f143 [.box [.k (.int .i64), .row 35 .float, .row 35 .float], .k (.int .i64)] [⟨[], [some (.box [.k (.int .i64), .row 35 .float, .row 35 .float]), none]⟩] (v1, v2, ()) = gogeom_Bounds_extendStride N v1 v2 := by
  have h0 : (gogeom_Bounds_extendStride_e0 N N) = (gogeom_Bounds_extendStride_l0 N N) := by funext v2 v1 v6 v7 v8; exact gogeom_Bounds_extendStride_t0 N N v2 v1 v6 v7 v8
  exact (show evF2 (gogeom_Bounds_extendStride_E N) [] Try.f143 [.box [.k (.int .i64), .row 35 .float, .row 35 .float], .k (.int .i64)] [⟨[], [some (.box [.k (.int .i64), .row 35 .float, .row 35 .float]), none]⟩] (v1, v2, ()) = gogeom_Bounds_extendStride_g N v1 v2 (gogeom_Bounds_extendStride_e0 N N) from by kernel_rfl).trans (by rw [h0]; rfl)
noncomputable def gogeom_Bounds_extendStride_con (N : Nat) : Con2 := ⟨143, [.box [.k (.int .i64), .row 35 .float, .row 35 .float], .k (.int .i64)], [⟨[], [some (.box [.k (.int .i64), .row 35 .float, .row 35 .float]), none]⟩], fun x => gogeom_Bounds_extendStride N x.1 x.2.1⟩
theorem gogeom_Bounds_extendStride_s (N : Nat) : (gogeom_Bounds_extendStride_con N).Sound Try.prog :=
  Con2.sound_of (c := gogeom_Bounds_extendStride_con N) (E := (gogeom_Bounds_extendStride_E N)) (idle := []) Try.func143 (by kernel_rfl) (by kernel_rfl) ⟨(allCons (gogeom_Layout_Stride_s N) (allCons (math_Inf_s N) allNil)), allNil⟩ allNil (fun x y h => (gogeom_Bounds_extendStride_t N x.1 x.2.1).trans h)
/-- (*pub-orthodrome/pub/gogeom.Bounds).extendFlatCoords -/
noncomputable def gogeom_Bounds_extendFlatCoords_E (N : Nat) : Env := ⟨Try.prog, N, [math_Min_con N, math_Max_con N], [(0, ⟨[], [], [0, 1, 2, 3, 4], [1000000, 1000001, 1000002], none⟩), (1, ⟨[], [], [0, 1, 2, 3, 4], [1000000, 1000001, 1000002], none⟩), (2, ⟨[], [], [0, 1, 2, 3, 4], [100751, 100752, 1000000], none⟩), (3, ⟨[], [], [0, 1, 3, 4, 11], [100751, 100752, 1000000], none⟩), (4, ⟨[], [], [0, 1, 3, 4, 11], [100751, 100752, 1000000], none⟩), (5, ⟨[], [], [0, 1, 3, 4, 11], [100751, 100752, 1000000], none⟩), (6, ⟨[], [], [0, 1, 3, 4, 11, 23, 24], [100751, 100752, 1000000], none⟩), (7, ⟨[], [], [0, 1, 3, 4, 11, 23, 24], [100751, 100752, 1000000], none⟩), (8, ⟨[], [], [0, 1, 3, 4, 11, 12, 23, 24], [100751, 100752, 1000000], none⟩), (9, ⟨[], [], [0, 1, 3, 4, 11, 12, 23, 24], [100751, 100752, 1000000], none⟩), (10, ⟨[], [], [0, 1, 3, 4, 11, 23, 24], [100751, 100752, 1000000], none⟩), (11, ⟨[], [], [0], [100751, 100752, 1000000], none⟩)], kdL [], [gogeom_Bounds_extendStride_con N]⟩
def gogeom_Bounds_extendFlatCoords_g1 (N : Nat) (v2 : (List Nat)) (v4 : Int) (v5 : Int) (v6 : ((Int × (List Nat) × (List Nat) × Unit) × Unit)) (v30 : Int) (r1 : Int → (List Nat) → (List Nat) → Option ((Unit × (Int × (List Nat) × (List Nat) × Unit) × Unit))) (r0 : Int → (List Nat) → (List Nat) → Option ((Unit × (Int × (List Nat) × (List Nat) × Unit) × Unit))) (v43 : Int) (v44 : (List Nat)) (v45 : (List Nat)) : Option ((Unit × (Int × (List Nat) × (List Nat) × Unit) × Unit)) :=
  (bif (decide ((v43 : Int) < v5)) then ((chk v43 v44.length).bind fun v46 => (v44[v46]?).bind fun v47 => (nth v2 (IntKind.i64.wrap (v30 + v43))).bind fun v48 => (math_Min N v47 v48).bind fun v49 => (chk v43 v44.length).bind fun v50 => ((chk v43 v45.length).bind fun v51 => (v45[v51]?).bind fun v52 => (nth v2 (IntKind.i64.wrap (v30 + v43))).bind fun v53 => (math_Max N v52 v53).bind fun v54 => (chk v43 v45.length).bind fun v55 => ((r1 (IntKind.i64.wrap (v43 + 1)) (v44.set v50 v49) (v45.set v55 v54))))) else ((r0 (IntKind.i64.wrap (v30 + v5)) v44 v45)))
def gogeom_Bounds_extendFlatCoords_l1 (N : Nat) (r0 : Int → (List Nat) → (List Nat) → Option ((Unit × (Int × (List Nat) × (List Nat) × Unit) × Unit))) (v2 : (List Nat)) (v4 : Int) (v5 : Int) (v6 : ((Int × (List Nat) × (List Nat) × Unit) × Unit)) : Nat → Int → Int → (List Nat) → (List Nat) → Option ((Unit × (Int × (List Nat) × (List Nat) × Unit) × Unit))
  | 0, _, _, _, _ => none
  | n + 1, v30, v43, v44, v45 => gogeom_Bounds_extendFlatCoords_g1 N v2 v4 v5 v6 v30 (gogeom_Bounds_extendFlatCoords_l1 N r0 v2 v4 v5 v6 n v30) r0 v43 v44 v45
def gogeom_Bounds_extendFlatCoords_g0 (N : Nat) (v2 : (List Nat)) (v4 : Int) (v5 : Int) (v6 : ((Int × (List Nat) × (List Nat) × Unit) × Unit)) (c1 : Int → Int → (List Nat) → (List Nat) → Option ((Unit × (Int × (List Nat) × (List Nat) × Unit) × Unit))) (r0 : Int → (List Nat) → (List Nat) → Option ((Unit × (Int × (List Nat) × (List Nat) × Unit) × Unit))) (v30 : Int) (v31 : (List Nat)) (v32 : (List Nat)) : Option ((Unit × (Int × (List Nat) × (List Nat) × Unit) × Unit)) :=
  (bif (decide ((v30 : Int) < v4)) then ((c1 v30 0 v31 v32)) else (some ((), (v6.1.1, v31, v32, ()), ())))
def gogeom_Bounds_extendFlatCoords_l0 (N : Nat) : Nat → (List Nat) → Int → Int → ((Int × (List Nat) × (List Nat) × Unit) × Unit) → Int → (List Nat) → (List Nat) → Option ((Unit × (Int × (List Nat) × (List Nat) × Unit) × Unit))
  | 0, _, _, _, _, _, _, _ => none
  | n + 1, v2, v4, v5, v6, v30, v31, v32 => gogeom_Bounds_extendFlatCoords_g0 N v2 v4 v5 v6 (gogeom_Bounds_extendFlatCoords_l1 N (gogeom_Bounds_extendFlatCoords_l0 N n v2 v4 v5 v6) v2 v4 v5 v6 N) (gogeom_Bounds_extendFlatCoords_l0 N n v2 v4 v5 v6) v30 v31 v32
def gogeom_Bounds_extendFlatCoords_g (N : Nat) (v1 : (Int × (List Nat) × (List Nat) × Unit)) (v2 : (List Nat)) (v3 : Int) (v4 : Int) (v5 : Int) (c0 : (List Nat) → Int → Int → ((Int × (List Nat) × (List Nat) × Unit) × Unit) → Int → (List Nat) → (List Nat) → Option ((Unit × (Int × (List Nat) × (List Nat) × Unit) × Unit))) : Option ((Unit × (Int × (List Nat) × (List Nat) × Unit) × Unit)) :=
  ((gogeom_Bounds_extendStride N (v1.1, v1.2.1, v1.2.2.1, ()) v5).bind fun v6 => ((c0 v2 v4 v5 v6 v3 v6.1.2.1 v6.1.2.2.1)))
def gogeom_Bounds_extendFlatCoords (N : Nat) (v1 : (Int × (List Nat) × (List Nat) × Unit)) (v2 : (List Nat)) (v3 : Int) (v4 : Int) (v5 : Int) : Option ((Unit × (Int × (List Nat) × (List Nat) × Unit) × Unit)) :=
  gogeom_Bounds_extendFlatCoords_g N v1 v2 v3 v4 v5 (gogeom_Bounds_extendFlatCoords_l0 N N)
set_option maxRecDepth 100000
noncomputable def gogeom_Bounds_extendFlatCoords_e1 (N : Nat) (m0 : Nat) (v2 : (List Nat)) (v4 : Int) (v5 : Int) (v6 : ((Int × (List Nat) × (List Nat) × Unit) × Unit)) (n : Nat) (v30 : Int) (v43 : Int) (v44 : (List Nat)) (v45 : (List Nat)) : Option (AltD [⟨[.par 0], [some (.box [.k (.int .i64), .row 35 .float, .row 35 .float]), none, none, none, none]⟩]) :=
  loopN (advOf (gogeom_Bounds_extendFlatCoords_E N) (codeAt (bodyOf Try.f126) [1, 1, 0, 1, 0, 0, 1, 0, 0, 1, 0, 0])) (evC (gogeom_Bounds_extendFlatCoords_E N) (codeAt (bodyOf Try.f126) [1, 1, 0, 1, 0, 0, 1, 0, 0, 1, 0, 0])) n ⟨[(0, .ref 1000000 0), (1, .pv (.list .float) v2), (3, .pv (.int .i64) v4), (4, .pv (.int .i64) v5), (11, .pv (.int .i64) v30), (23, .pv (.int .i64) v5), (24, .pv (.int .i64) v43)], [(100751, .arr 35 .float v44), (100752, .arr 35 .float v45), (1000000, .box [.pv (.int .i64) v6.1.1, .own .float 100751, .own .float 100752])], []⟩ (kBlock 2 (kBlock 1 (kSeq (advOf (gogeom_Bounds_extendFlatCoords_E N) (codeAt (bodyOf Try.f126) [1, 1, 0, 1, 0, 0, 1, 1])) (evC (gogeom_Bounds_extendFlatCoords_E N) (codeAt (bodyOf Try.f126) [1, 1, 0, 1, 0, 0, 1, 1])) (kSeq (advOf (gogeom_Bounds_extendFlatCoords_E N) (codeAt (bodyOf Try.f126) [1, 1, 0, 1, 0, 0])) (fun st K => loopN (advOf (gogeom_Bounds_extendFlatCoords_E N) (codeAt (bodyOf Try.f126) [1, 1, 0, 1, 0, 0])) (evC (gogeom_Bounds_extendFlatCoords_E N) (codeAt (bodyOf Try.f126) [1, 1, 0, 1, 0, 0])) m0 st K) (kBlock 0 (kSeq (advOf (gogeom_Bounds_extendFlatCoords_E N) (codeAt (bodyOf Try.f126) [1, 1, 1])) (evC (gogeom_Bounds_extendFlatCoords_E N) (codeAt (bodyOf Try.f126) [1, 1, 1])) (kEnd2 (gogeom_Bounds_extendFlatCoords_E N) [] Try.f126.results.toList [⟨[.par 0], [some (.box [.k (.int .i64), .row 35 .float, .row 35 .float]), none, none, none, none]⟩] [.ref 1000000 0, .dead, .dead, .dead, .dead])))))))
noncomputable def gogeom_Bounds_extendFlatCoords_e0 (N : Nat) (n : Nat) (v2 : (List Nat)) (v4 : Int) (v5 : Int) (v6 : ((Int × (List Nat) × (List Nat) × Unit) × Unit)) (v30 : Int) (v31 : (List Nat)) (v32 : (List Nat)) : Option (AltD [⟨[.par 0], [some (.box [.k (.int .i64), .row 35 .float, .row 35 .float]), none, none, none, none]⟩]) :=
  loopN (advOf (gogeom_Bounds_extendFlatCoords_E N) (codeAt (bodyOf Try.f126) [1, 1, 0, 1, 0, 0])) (evC (gogeom_Bounds_extendFlatCoords_E N) (codeAt (bodyOf Try.f126) [1, 1, 0, 1, 0, 0])) n ⟨[(0, .ref 1000000 0), (1, .pv (.list .float) v2), (3, .pv (.int .i64) v4), (4, .pv (.int .i64) v5), (11, .pv (.int .i64) v30)], [(100751, .arr 35 .float v31), (100752, .arr 35 .float v32), (1000000, .box [.pv (.int .i64) v6.1.1, .own .float 100751, .own .float 100752])], []⟩ (kBlock 0 (kSeq (advOf (gogeom_Bounds_extendFlatCoords_E N) (codeAt (bodyOf Try.f126) [1, 1, 1])) (evC (gogeom_Bounds_extendFlatCoords_E N) (codeAt (bodyOf Try.f126) [1, 1, 1])) (kEnd2 (gogeom_Bounds_extendFlatCoords_E N) [] Try.f126.results.toList [⟨[.par 0], [some (.box [.k (.int .i64), .row 35 .float, .row 35 .float]), none, none, none, none]⟩] [.ref 1000000 0, .dead, .dead, .dead, .dead])))
theorem gogeom_Bounds_extendFlatCoords_t1 (N : Nat) (m0 : Nat) (v2 : (List Nat)) (v4 : Int) (v5 : Int) (v6 : ((Int × (List Nat) × (List Nat) × Unit) × Unit)) : ∀ (n : Nat) (v30 : Int) (v43 : Int) (v44 : (List Nat)) (v45 : (List Nat)), gogeom_Bounds_extendFlatCoords_e1 N m0 v2 v4 v5 v6 n v30 v43 v44 v45 = gogeom_Bounds_extendFlatCoords_l1 N (gogeom_Bounds_extendFlatCoords_e0 N m0 v2 v4 v5 v6) v2 v4 v5 v6 n v30 v43 v44 v45
  | 0, _, _, _, _ => rfl
  | n + 1, v30, v43, v44, v45 => by
    have h : gogeom_Bounds_extendFlatCoords_e1 N m0 v2 v4 v5 v6 n v30 = gogeom_Bounds_extendFlatCoords_l1 N (gogeom_Bounds_extendFlatCoords_e0 N m0 v2 v4 v5 v6) v2 v4 v5 v6 n v30 := by funext v43 v44 v45; exact gogeom_Bounds_extendFlatCoords_t1 N m0 v2 v4 v5 v6 n v30 v43 v44 v45
    exact (show gogeom_Bounds_extendFlatCoords_e1 N m0 v2 v4 v5 v6 (n + 1) v30 v43 v44 v45 = gogeom_Bounds_extendFlatCoords_g1 N v2 v4 v5 v6 v30 (gogeom_Bounds_extendFlatCoords_e1 N m0 v2 v4 v5 v6 n v30) (gogeom_Bounds_extendFlatCoords_e0 N m0 v2 v4 v5 v6) v43 v44 v45 from by kernel_rfl).trans (by rw [h]; rfl)
theorem gogeom_Bounds_extendFlatCoords_t0 (N : Nat) : ∀ (n : Nat) (v2 : (List Nat)) (v4 : Int) (v5 : Int) (v6 : ((Int × (List Nat) × (List Nat) × Unit) × Unit)) (v30 : Int) (v31 : (List Nat)) (v32 : (List Nat)), gogeom_Bounds_extendFlatCoords_e0 N n v2 v4 v5 v6 v30 v31 v32 = gogeom_Bounds_extendFlatCoords_l0 N n v2 v4 v5 v6 v30 v31 v32
  | 0, _, _, _, _, _, _, _ => rfl
  | n + 1, v2, v4, v5, v6, v30, v31, v32 => by
    have h1 : (gogeom_Bounds_extendFlatCoords_e1 N n v2 v4 v5 v6 N) = (gogeom_Bounds_extendFlatCoords_l1 N (gogeom_Bounds_extendFlatCoords_e0 N n v2 v4 v5 v6) v2 v4 v5 v6 N) := by funext v30 v43 v44 v45; exact gogeom_Bounds_extendFlatCoords_t1 N n v2 v4 v5 v6 N v30 v43 v44 v45
    have h : gogeom_Bounds_extendFlatCoords_e0 N n v2 v4 v5 v6 = gogeom_Bounds_extendFlatCoords_l0 N n v2 v4 v5 v6 := by funext v30 v31 v32; exact gogeom_Bounds_extendFlatCoords_t0 N n v2 v4 v5 v6 v30 v31 v32
    exact (show gogeom_Bounds_extendFlatCoords_e0 N (n + 1) v2 v4 v5 v6 v30 v31 v32 = gogeom_Bounds_extendFlatCoords_g0 N v2 v4 v5 v6 (gogeom_Bounds_extendFlatCoords_e1 N n v2 v4 v5 v6 N) (gogeom_Bounds_extendFlatCoords_e0 N n v2 v4 v5 v6) v30 v31 v32 from by kernel_rfl).trans (by rw [h1, h]; rfl)
theorem gogeom_Bounds_extendFlatCoords_t (N : Nat) (v1 : (Int × (List Nat) × (List Nat) × Unit)) (v2 : (List Nat)) (v3 : Int) (v4 : Int) (v5 : Int) : evF2 (gogeom_Bounds_extendFlatCoords_E N) [] Try.f126 [.box [.k (.int .i64), .row 35 .float, .row 35 .float], .k (.list .float), .k (.int .i64), .k (.int .i64), .k (.int .i64)] [⟨[.par 0], [some (.box [.k (.int .i64), .row 35 .float, .row 35 .float]), none, none, none, none]⟩] (v1, v2, v3, v4, v5, ()) = gogeom_Bounds_extendFlatCoords N v1 v2 v3 v4 v5 := by
  have h0 : (gogeom_Bounds_extendFlatCoords_e0 N N) = (gogeom_Bounds_extendFlatCoords_l0 N N) := by funext v2 v4 v5 v6 v30 v31 v32; exact gogeom_Bounds_extendFlatCoords_t0 N N v2 v4 v5 v6 v30 v31 v32
  exact (show evF2 (gogeom_Bounds_extendFlatCoords_E N) [] Try.f126 [.box [.k (.int .i64), .row 35 .float, .row 35 .float], .k (.list .float), .k (.int .i64), .k (.int .i64), .k (.int .i64)] [⟨[.par 0], [some (.box [.k (.int .i64), .row 35 .float, .row 35 .float]), none, none, none, none]⟩] (v1, v2, v3, v4, v5, ()) = gogeom_Bounds_extendFlatCoords_g N v1 v2 v3 v4 v5 (gogeom_Bounds_extendFlatCoords_e0 N N) from by kernel_rfl).trans (by rw [h0]; rfl)
noncomputable def gogeom_Bounds_extendFlatCoords_con (N : Nat) : Con2 := ⟨126, [.box [.k (.int .i64), .row 35 .float, .row 35 .float], .k (.list .float), .k (.int .i64), .k (.int .i64), .k (.int .i64)], [⟨[.par 0], [some (.box [.k (.int .i64), .row 35 .float, .row 35 .float]), none, none, none, none]⟩], fun x => gogeom_Bounds_extendFlatCoords N x.1 x.2.1 x.2.2.1 x.2.2.2.1 x.2.2.2.2.1⟩
theorem gogeom_Bounds_extendFlatCoords_s (N : Nat) : (gogeom_Bounds_extendFlatCoords_con N).Sound Try.prog :=
  Con2.sound_of (c := gogeom_Bounds_extendFlatCoords_con N) (E := (gogeom_Bounds_extendFlatCoords_E N)) (idle := []) Try.func126 (by kernel_rfl) (by kernel_rfl) ⟨(allCons (math_Min_s N) (allCons (math_Max_s N) allNil)), (allCons (gogeom_Bounds_extendStride_s N) allNil)⟩ allNil (fun x y h => (gogeom_Bounds_extendFlatCoords_t N x.1 x.2.1 x.2.2.1 x.2.2.2.1 x.2.2.2.2.1).trans h)
/-- (*pub-orthodrome/pub/gogeom.geom0).Bounds -/
noncomputable def gogeom_geom0_Bounds_E (N : Nat) : Env := ⟨Try.prog, N, [], [(0, ⟨[], [], [0], [], none⟩), (1, ⟨[], [], [0], [], none⟩)], kdL [], [gogeom_NewBounds_con N, gogeom_Bounds_extendFlatCoords_con N]⟩
def gogeom_geom0_Bounds_g (N : Nat) (v1 : (Int × (Int × ((List Nat) × (Int × Unit))))) : Option (((Int × (List Nat) × (List Nat) × Unit) × Unit)) :=
  ((gogeom_NewBounds N v1.1).bind fun v2 => (gogeom_Bounds_extendFlatCoords N (v2.1.1, v2.1.2.1, v2.1.2.2.1, ()) v1.2.2.1 0 (v1.2.2.1.length : Int) v1.2.1).bind fun v3 => (some ((v3.2.1.1, v3.2.1.2.1, v3.2.1.2.2.1, ()), ())))
def gogeom_geom0_Bounds (N : Nat) (v1 : (Int × (Int × ((List Nat) × (Int × Unit))))) : Option (((Int × (List Nat) × (List Nat) × Unit) × Unit)) :=
  gogeom_geom0_Bounds_g N v1
set_option maxRecDepth 100000
theorem gogeom_geom0_Bounds_t (N : Nat) (v1 : (Int × (Int × ((List Nat) × (Int × Unit))))) : evF2 (gogeom_geom0_Bounds_E N) [] Try.f168 [.lref (.pair (.int .i64) (.pair (.int .i64) (.pair (.list .float) (.pair (.int .i64) .unit))))] [⟨[.box [.k (.int .i64), .row 35 .float, .row 35 .float]], [none]⟩] (v1, ()) = gogeom_geom0_Bounds N v1 := by
  exact (show evF2 (gogeom_geom0_Bounds_E N) [] Try.f168 [.lref (.pair (.int .i64) (.pair (.int .i64) (.pair (.list .float) (.pair (.int .i64) .unit))))] [⟨[.box [.k (.int .i64), .row 35 .float, .row 35 .float]], [none]⟩] (v1, ()) = gogeom_geom0_Bounds_g N v1 from by kernel_rfl).trans (by rfl)
noncomputable def gogeom_geom0_Bounds_con (N : Nat) : Con2 := ⟨168, [.lref (.pair (.int .i64) (.pair (.int .i64) (.pair (.list .float) (.pair (.int .i64) .unit))))], [⟨[.box [.k (.int .i64), .row 35 .float, .row 35 .float]], [none]⟩], fun x => gogeom_geom0_Bounds N x.1⟩
theorem gogeom_geom0_Bounds_s (N : Nat) : (gogeom_geom0_Bounds_con N).Sound Try.prog :=
  Con2.sound_of (c := gogeom_geom0_Bounds_con N) (E := (gogeom_geom0_Bounds_E N)) (idle := []) Try.func168 (by kernel_rfl) (by kernel_rfl) ⟨allNil, (allCons (gogeom_NewBounds_s N) (allCons (gogeom_Bounds_extendFlatCoords_s N) allNil))⟩ allNil (fun x y h => (gogeom_geom0_Bounds_t N x.1).trans h)
/-- pub-orthodrome/pub/gogeom.DoorBoundsParts -/
noncomputable def gogeom_DoorBoundsParts_b_E (N : Nat) : Env := ⟨Try.prog, N, [], [(0, ⟨[], [], [0], [1000000, 1000001, 1000002], none⟩), (1, ⟨[], [], [0], [1000000, 1000001, 1000002], none⟩)], kdL [], []⟩
def gogeom_DoorBoundsParts_b_g (N : Nat) (v1 : (Int × (List Nat) × (List Nat) × Unit)) : Option ((Int × (List Nat) × (List Nat) × (Int × (List Nat) × (List Nat) × Unit) × Unit)) :=
  (some (v1.1, v1.2.1, v1.2.2.1, (v1.1, v1.2.1, v1.2.2.1, ()), ()))
def gogeom_DoorBoundsParts_b (N : Nat) (v1 : (Int × (List Nat) × (List Nat) × Unit)) : Option ((Int × (List Nat) × (List Nat) × (Int × (List Nat) × (List Nat) × Unit) × Unit)) :=
  gogeom_DoorBoundsParts_b_g N v1
set_option maxRecDepth 100000
theorem gogeom_DoorBoundsParts_b_t (N : Nat) (v1 : (Int × (List Nat) × (List Nat) × Unit)) : evF2 (gogeom_DoorBoundsParts_b_E N) [] Try.f88 [.box [.k (.int .i64), .row 35 .float, .row 35 .float]] [⟨[.k (.int .i64), .k (.list .float), .k (.list .float)], [some (.box [.k (.int .i64), .k (.list .float), .k (.list .float)])]⟩] (v1, ()) = gogeom_DoorBoundsParts_b N v1 := by
  exact (show evF2 (gogeom_DoorBoundsParts_b_E N) [] Try.f88 [.box [.k (.int .i64), .row 35 .float, .row 35 .float]] [⟨[.k (.int .i64), .k (.list .float), .k (.list .float)], [some (.box [.k (.int .i64), .k (.list .float), .k (.list .float)])]⟩] (v1, ()) = gogeom_DoorBoundsParts_b_g N v1 from by kernel_rfl).trans (by rfl)
noncomputable def gogeom_DoorBoundsParts_b_con (N : Nat) : Con2 := ⟨88, [.box [.k (.int .i64), .row 35 .float, .row 35 .float]], [⟨[.k (.int .i64), .k (.list .float), .k (.list .float)], [some (.box [.k (.int .i64), .k (.list .float), .k (.list .float)])]⟩], fun x => gogeom_DoorBoundsParts_b N x.1⟩
theorem gogeom_DoorBoundsParts_b_s (N : Nat) : (gogeom_DoorBoundsParts_b_con N).Sound Try.prog :=
  Con2.sound_of (c := gogeom_DoorBoundsParts_b_con N) (E := (gogeom_DoorBoundsParts_b_E N)) (idle := []) Try.func88 (by kernel_rfl) (by kernel_rfl) ⟨allNil, allNil⟩ allNil (fun x y h => (gogeom_DoorBoundsParts_b_t N x.1).trans h)
/-- pub-orthodrome/impl.plainBox -/
noncomputable def impl_plainBox_E (N : Nat) : Env := ⟨Try.prog, N, [], [(0, ⟨[], [], [0], [1000000, 1000001, 1000002], none⟩), (1, ⟨[], [], [0, 2], [2, 1000000, 1000001, 1000002], none⟩), (2, ⟨[], [], [2, 3, 4, 5], [2, 1000000], none⟩)], kdL [], [gogeom_DoorBoundsParts_b_con N, impl_floats_con N]⟩
def impl_plainBox_g (N : Nat) (v1 : (Int × (List Nat) × (List Nat) × Unit)) : Option (((Int × (List Nat) × (List Nat) × Unit) × (Int × (List Nat) × (List Nat) × Unit) × Unit)) :=
  ((gogeom_DoorBoundsParts_b N (v1.1, v1.2.1, v1.2.2.1, ())).bind fun v2 => ((impl_floats N v2.2.1).bind fun v3 => (impl_floats N v2.2.2.1).bind fun v4 => (some ((v2.1, v3.1, v4.1, ()), (v2.2.2.2.1.1, v2.2.2.2.1.2.1, v2.2.2.2.1.2.2.1, ()), ()))))
def impl_plainBox (N : Nat) (v1 : (Int × (List Nat) × (List Nat) × Unit)) : Option (((Int × (List Nat) × (List Nat) × Unit) × (Int × (List Nat) × (List Nat) × Unit) × Unit)) :=
  impl_plainBox_g N v1
set_option maxRecDepth 100000
theorem impl_plainBox_t (N : Nat) (v1 : (Int × (List Nat) × (List Nat) × Unit)) : evF2 (impl_plainBox_E N) [] Try.f49 [.box [.k (.int .i64), .row 35 .float, .row 35 .float]] [⟨[.agg [.k (.int .i64), .row 35 .float, .row 35 .float]], [some (.box [.k (.int .i64), .k (.list .float), .k (.list .float)])]⟩] (v1, ()) = impl_plainBox N v1 := by
  exact (show evF2 (impl_plainBox_E N) [] Try.f49 [.box [.k (.int .i64), .row 35 .float, .row 35 .float]] [⟨[.agg [.k (.int .i64), .row 35 .float, .row 35 .float]], [some (.box [.k (.int .i64), .k (.list .float), .k (.list .float)])]⟩] (v1, ()) = impl_plainBox_g N v1 from by kernel_rfl).trans (by rfl)
noncomputable def impl_plainBox_con (N : Nat) : Con2 := ⟨49, [.box [.k (.int .i64), .row 35 .float, .row 35 .float]], [⟨[.agg [.k (.int .i64), .row 35 .float, .row 35 .float]], [some (.box [.k (.int .i64), .k (.list .float), .k (.list .float)])]⟩], fun x => impl_plainBox N x.1⟩
theorem impl_plainBox_s (N : Nat) : (impl_plainBox_con N).Sound Try.prog :=
  Con2.sound_of (c := impl_plainBox_con N) (E := (impl_plainBox_E N)) (idle := []) Try.func49 (by kernel_rfl) (by kernel_rfl) ⟨allNil, (allCons (gogeom_DoorBoundsParts_b_s N) (allCons (impl_floats_s N) allNil))⟩ allNil (fun x y h => (impl_plainBox_t N x.1).trans h)
/-- (*pub-orthodrome/pub/gogeom.Bounds).extendFlatCoords -/
noncomputable def gogeom_Bounds_extendFlatCoords_b_E (N : Nat) : Env := ⟨Try.prog, N, [math_Min_con N, math_Max_con N], [(0, ⟨[], [], [0, 1, 2, 3, 4], [1000000, 1000001, 1000002, 1000003], none⟩), (1, ⟨[], [], [0, 1, 2, 3, 4], [1000000, 1000001, 1000002, 1000003], none⟩), (2, ⟨[], [], [0, 1, 2, 3, 4], [100751, 100752, 1000000, 1000003], none⟩), (3, ⟨[], [], [0, 1, 3, 4, 11], [100751, 100752, 1000000, 1000003], none⟩), (4, ⟨[], [], [0, 1, 3, 4, 11], [100751, 100752, 1000000, 1000003], none⟩), (5, ⟨[], [], [0, 1, 3, 4, 11], [100751, 100752, 1000000, 1000003], none⟩), (6, ⟨[], [], [0, 1, 3, 4, 11, 23, 24], [100751, 100752, 1000000, 1000003], none⟩), (7, ⟨[], [], [0, 1, 3, 4, 11, 23, 24], [100751, 100752, 1000000, 1000003], none⟩), (8, ⟨[], [], [0, 1, 3, 4, 11, 12, 23, 24], [100751, 100752, 1000000, 1000003], none⟩), (9, ⟨[], [], [0, 1, 3, 4, 11, 12, 23, 24], [100751, 100752, 1000000, 1000003], none⟩), (10, ⟨[], [], [0, 1, 3, 4, 11, 23, 24], [100751, 100752, 1000000, 1000003], none⟩), (11, ⟨[], [], [0], [100751, 100752, 1000000, 1000003], none⟩)], kdL [], [gogeom_Bounds_extendStride_con N]⟩
def gogeom_Bounds_extendFlatCoords_b_g1 (N : Nat) (v4 : Int) (v5 : Int) (v6 : ((Int × (List Nat) × (List Nat) × Unit) × Unit)) (v2 : (List Nat)) (v34 : Int) (r1 : Int → (List Nat) → (List Nat) → Option ((Unit × (Int × (List Nat) × (List Nat) × Unit) × (List Nat) × Unit))) (r0 : Int → (List Nat) → (List Nat) → Option ((Unit × (Int × (List Nat) × (List Nat) × Unit) × (List Nat) × Unit))) (v49 : Int) (v50 : (List Nat)) (v51 : (List Nat)) : Option ((Unit × (Int × (List Nat) × (List Nat) × Unit) × (List Nat) × Unit)) :=
  (bif (decide ((v49 : Int) < v5)) then ((chk v49 v50.length).bind fun v52 => (v50[v52]?).bind fun v53 => (chk (IntKind.i64.wrap (v34 + v49)) v2.length).bind fun v54 => (v2[v54]?).bind fun v55 => (math_Min N v53 v55).bind fun v56 => (chk v49 v50.length).bind fun v57 => ((chk v49 v51.length).bind fun v58 => (v51[v58]?).bind fun v59 => (chk (IntKind.i64.wrap (v34 + v49)) v2.length).bind fun v60 => (v2[v60]?).bind fun v61 => (math_Max N v59 v61).bind fun v62 => (chk v49 v51.length).bind fun v63 => ((r1 (IntKind.i64.wrap (v49 + 1)) (v50.set v57 v56) (v51.set v63 v62))))) else ((r0 (IntKind.i64.wrap (v34 + v5)) v50 v51)))
def gogeom_Bounds_extendFlatCoords_b_l1 (N : Nat) (r0 : Int → (List Nat) → (List Nat) → Option ((Unit × (Int × (List Nat) × (List Nat) × Unit) × (List Nat) × Unit))) (v4 : Int) (v5 : Int) (v6 : ((Int × (List Nat) × (List Nat) × Unit) × Unit)) (v2 : (List Nat)) : Nat → Int → Int → (List Nat) → (List Nat) → Option ((Unit × (Int × (List Nat) × (List Nat) × Unit) × (List Nat) × Unit))
  | 0, _, _, _, _ => none
  | n + 1, v34, v49, v50, v51 => gogeom_Bounds_extendFlatCoords_b_g1 N v4 v5 v6 v2 v34 (gogeom_Bounds_extendFlatCoords_b_l1 N r0 v4 v5 v6 v2 n v34) r0 v49 v50 v51
def gogeom_Bounds_extendFlatCoords_b_g0 (N : Nat) (v4 : Int) (v5 : Int) (v6 : ((Int × (List Nat) × (List Nat) × Unit) × Unit)) (v2 : (List Nat)) (c1 : Int → Int → (List Nat) → (List Nat) → Option ((Unit × (Int × (List Nat) × (List Nat) × Unit) × (List Nat) × Unit))) (r0 : Int → (List Nat) → (List Nat) → Option ((Unit × (Int × (List Nat) × (List Nat) × Unit) × (List Nat) × Unit))) (v34 : Int) (v35 : (List Nat)) (v36 : (List Nat)) : Option ((Unit × (Int × (List Nat) × (List Nat) × Unit) × (List Nat) × Unit)) :=
  (bif (decide ((v34 : Int) < v4)) then ((c1 v34 0 v35 v36)) else (some ((), (v6.1.1, v35, v36, ()), v2, ())))
def gogeom_Bounds_extendFlatCoords_b_l0 (N : Nat) : Nat → Int → Int → ((Int × (List Nat) × (List Nat) × Unit) × Unit) → (List Nat) → Int → (List Nat) → (List Nat) → Option ((Unit × (Int × (List Nat) × (List Nat) × Unit) × (List Nat) × Unit))
  | 0, _, _, _, _, _, _, _ => none
  | n + 1, v4, v5, v6, v2, v34, v35, v36 => gogeom_Bounds_extendFlatCoords_b_g0 N v4 v5 v6 v2 (gogeom_Bounds_extendFlatCoords_b_l1 N (gogeom_Bounds_extendFlatCoords_b_l0 N n v4 v5 v6 v2) v4 v5 v6 v2 N) (gogeom_Bounds_extendFlatCoords_b_l0 N n v4 v5 v6 v2) v34 v35 v36
def gogeom_Bounds_extendFlatCoords_b_g (N : Nat) (v1 : (Int × (List Nat) × (List Nat) × Unit)) (v2 : (List Nat)) (v3 : Int) (v4 : Int) (v5 : Int) (c0 : Int → Int → ((Int × (List Nat) × (List Nat) × Unit) × Unit) → (List Nat) → Int → (List Nat) → (List Nat) → Option ((Unit × (Int × (List Nat) × (List Nat) × Unit) × (List Nat) × Unit))) : Option ((Unit × (Int × (List Nat) × (List Nat) × Unit) × (List Nat) × Unit)) :=
  ((gogeom_Bounds_extendStride N (v1.1, v1.2.1, v1.2.2.1, ()) v5).bind fun v6 => ((c0 v4 v5 v6 v2 v3 v6.1.2.1 v6.1.2.2.1)))
def gogeom_Bounds_extendFlatCoords_b (N : Nat) (v1 : (Int × (List Nat) × (List Nat) × Unit)) (v2 : (List Nat)) (v3 : Int) (v4 : Int) (v5 : Int) : Option ((Unit × (Int × (List Nat) × (List Nat) × Unit) × (List Nat) × Unit)) :=
  gogeom_Bounds_extendFlatCoords_b_g N v1 v2 v3 v4 v5 (gogeom_Bounds_extendFlatCoords_b_l0 N N)
set_option maxRecDepth 100000
noncomputable def gogeom_Bounds_extendFlatCoords_b_e1 (N : Nat) (m0 : Nat) (v4 : Int) (v5 : Int) (v6 : ((Int × (List Nat) × (List Nat) × Unit) × Unit)) (v2 : (List Nat)) (n : Nat) (v34 : Int) (v49 : Int) (v50 : (List Nat)) (v51 : (List Nat)) : Option (AltD [⟨[.par 0], [some (.box [.k (.int .i64), .row 35 .float, .row 35 .float]), some (.row 35 .float), none, none, none]⟩]) :=
  loopN (advOf (gogeom_Bounds_extendFlatCoords_b_E N) (codeAt (bodyOf Try.f126) [1, 1, 0, 1, 0, 0, 1, 0, 0, 1, 0, 0])) (evC (gogeom_Bounds_extendFlatCoords_b_E N) (codeAt (bodyOf Try.f126) [1, 1, 0, 1, 0, 0, 1, 0, 0, 1, 0, 0])) n ⟨[(0, .ref 1000000 0), (1, .own .float 1000003), (3, .pv (.int .i64) v4), (4, .pv (.int .i64) v5), (11, .pv (.int .i64) v34), (23, .pv (.int .i64) v5), (24, .pv (.int .i64) v49)], [(100751, .arr 35 .float v50), (100752, .arr 35 .float v51), (1000000, .box [.pv (.int .i64) v6.1.1, .own .float 100751, .own .float 100752]), (1000003, .arr 35 .float v2)], []⟩ (kBlock 2 (kBlock 1 (kSeq (advOf (gogeom_Bounds_extendFlatCoords_b_E N) (codeAt (bodyOf Try.f126) [1, 1, 0, 1, 0, 0, 1, 1])) (evC (gogeom_Bounds_extendFlatCoords_b_E N) (codeAt (bodyOf Try.f126) [1, 1, 0, 1, 0, 0, 1, 1])) (kSeq (advOf (gogeom_Bounds_extendFlatCoords_b_E N) (codeAt (bodyOf Try.f126) [1, 1, 0, 1, 0, 0])) (fun st K => loopN (advOf (gogeom_Bounds_extendFlatCoords_b_E N) (codeAt (bodyOf Try.f126) [1, 1, 0, 1, 0, 0])) (evC (gogeom_Bounds_extendFlatCoords_b_E N) (codeAt (bodyOf Try.f126) [1, 1, 0, 1, 0, 0])) m0 st K) (kBlock 0 (kSeq (advOf (gogeom_Bounds_extendFlatCoords_b_E N) (codeAt (bodyOf Try.f126) [1, 1, 1])) (evC (gogeom_Bounds_extendFlatCoords_b_E N) (codeAt (bodyOf Try.f126) [1, 1, 1])) (kEnd2 (gogeom_Bounds_extendFlatCoords_b_E N) [] Try.f126.results.toList [⟨[.par 0], [some (.box [.k (.int .i64), .row 35 .float, .row 35 .float]), some (.row 35 .float), none, none, none]⟩] [.ref 1000000 0, .own .float 1000003, .dead, .dead, .dead])))))))
noncomputable def gogeom_Bounds_extendFlatCoords_b_e0 (N : Nat) (n : Nat) (v4 : Int) (v5 : Int) (v6 : ((Int × (List Nat) × (List Nat) × Unit) × Unit)) (v2 : (List Nat)) (v34 : Int) (v35 : (List Nat)) (v36 : (List Nat)) : Option (AltD [⟨[.par 0], [some (.box [.k (.int .i64), .row 35 .float, .row 35 .float]), some (.row 35 .float), none, none, none]⟩]) :=
  loopN (advOf (gogeom_Bounds_extendFlatCoords_b_E N) (codeAt (bodyOf Try.f126) [1, 1, 0, 1, 0, 0])) (evC (gogeom_Bounds_extendFlatCoords_b_E N) (codeAt (bodyOf Try.f126) [1, 1, 0, 1, 0, 0])) n ⟨[(0, .ref 1000000 0), (1, .own .float 1000003), (3, .pv (.int .i64) v4), (4, .pv (.int .i64) v5), (11, .pv (.int .i64) v34)], [(100751, .arr 35 .float v35), (100752, .arr 35 .float v36), (1000000, .box [.pv (.int .i64) v6.1.1, .own .float 100751, .own .float 100752]), (1000003, .arr 35 .float v2)], []⟩ (kBlock 0 (kSeq (advOf (gogeom_Bounds_extendFlatCoords_b_E N) (codeAt (bodyOf Try.f126) [1, 1, 1])) (evC (gogeom_Bounds_extendFlatCoords_b_E N) (codeAt (bodyOf Try.f126) [1, 1, 1])) (kEnd2 (gogeom_Bounds_extendFlatCoords_b_E N) [] Try.f126.results.toList [⟨[.par 0], [some (.box [.k (.int .i64), .row 35 .float, .row 35 .float]), some (.row 35 .float), none, none, none]⟩] [.ref 1000000 0, .own .float 1000003, .dead, .dead, .dead])))
theorem gogeom_Bounds_extendFlatCoords_b_t1 (N : Nat) (m0 : Nat) (v4 : Int) (v5 : Int) (v6 : ((Int × (List Nat) × (List Nat) × Unit) × Unit)) (v2 : (List Nat)) : ∀ (n : Nat) (v34 : Int) (v49 : Int) (v50 : (List Nat)) (v51 : (List Nat)), gogeom_Bounds_extendFlatCoords_b_e1 N m0 v4 v5 v6 v2 n v34 v49 v50 v51 = gogeom_Bounds_extendFlatCoords_b_l1 N (gogeom_Bounds_extendFlatCoords_b_e0 N m0 v4 v5 v6 v2) v4 v5 v6 v2 n v34 v49 v50 v51
  | 0, _, _, _, _ => rfl
  | n + 1, v34, v49, v50, v51 => by
    have h : gogeom_Bounds_extendFlatCoords_b_e1 N m0 v4 v5 v6 v2 n v34 = gogeom_Bounds_extendFlatCoords_b_l1 N (gogeom_Bounds_extendFlatCoords_b_e0 N m0 v4 v5 v6 v2) v4 v5 v6 v2 n v34 := by funext v49 v50 v51; exact gogeom_Bounds_extendFlatCoords_b_t1 N m0 v4 v5 v6 v2 n v34 v49 v50 v51
    exact (show gogeom_Bounds_extendFlatCoords_b_e1 N m0 v4 v5 v6 v2 (n + 1) v34 v49 v50 v51 = gogeom_Bounds_extendFlatCoords_b_g1 N v4 v5 v6 v2 v34 (gogeom_Bounds_extendFlatCoords_b_e1 N m0 v4 v5 v6 v2 n v34) (gogeom_Bounds_extendFlatCoords_b_e0 N m0 v4 v5 v6 v2) v49 v50 v51 from by kernel_rfl).trans (by rw [h]; rfl)
theorem gogeom_Bounds_extendFlatCoords_b_t0 (N : Nat) : ∀ (n : Nat) (v4 : Int) (v5 : Int) (v6 : ((Int × (List Nat) × (List Nat) × Unit) × Unit)) (v2 : (List Nat)) (v34 : Int) (v35 : (List Nat)) (v36 : (List Nat)), gogeom_Bounds_extendFlatCoords_b_e0 N n v4 v5 v6 v2 v34 v35 v36 = gogeom_Bounds_extendFlatCoords_b_l0 N n v4 v5 v6 v2 v34 v35 v36
  | 0, _, _, _, _, _, _, _ => rfl
  | n + 1, v4, v5, v6, v2, v34, v35, v36 => by
    have h1 : (gogeom_Bounds_extendFlatCoords_b_e1 N n v4 v5 v6 v2 N) = (gogeom_Bounds_extendFlatCoords_b_l1 N (gogeom_Bounds_extendFlatCoords_b_e0 N n v4 v5 v6 v2) v4 v5 v6 v2 N) := by funext v34 v49 v50 v51; exact gogeom_Bounds_extendFlatCoords_b_t1 N n v4 v5 v6 v2 N v34 v49 v50 v51
    have h : gogeom_Bounds_extendFlatCoords_b_e0 N n v4 v5 v6 v2 = gogeom_Bounds_extendFlatCoords_b_l0 N n v4 v5 v6 v2 := by funext v34 v35 v36; exact gogeom_Bounds_extendFlatCoords_b_t0 N n v4 v5 v6 v2 v34 v35 v36
    exact (show gogeom_Bounds_extendFlatCoords_b_e0 N (n + 1) v4 v5 v6 v2 v34 v35 v36 = gogeom_Bounds_extendFlatCoords_b_g0 N v4 v5 v6 v2 (gogeom_Bounds_extendFlatCoords_b_e1 N n v4 v5 v6 v2 N) (gogeom_Bounds_extendFlatCoords_b_e0 N n v4 v5 v6 v2) v34 v35 v36 from by kernel_rfl).trans (by rw [h1, h]; rfl)
theorem gogeom_Bounds_extendFlatCoords_b_t (N : Nat) (v1 : (Int × (List Nat) × (List Nat) × Unit)) (v2 : (List Nat)) (v3 : Int) (v4 : Int) (v5 : Int) : evF2 (gogeom_Bounds_extendFlatCoords_b_E N) [] Try.f126 [.box [.k (.int .i64), .row 35 .float, .row 35 .float], .row 35 .float, .k (.int .i64), .k (.int .i64), .k (.int .i64)] [⟨[.par 0], [some (.box [.k (.int .i64), .row 35 .float, .row 35 .float]), some (.row 35 .float), none, none, none]⟩] (v1, v2, v3, v4, v5, ()) = gogeom_Bounds_extendFlatCoords_b N v1 v2 v3 v4 v5 := by
  have h0 : (gogeom_Bounds_extendFlatCoords_b_e0 N N) = (gogeom_Bounds_extendFlatCoords_b_l0 N N) := by funext v4 v5 v6 v2 v34 v35 v36; exact gogeom_Bounds_extendFlatCoords_b_t0 N N v4 v5 v6 v2 v34 v35 v36
  exact (show evF2 (gogeom_Bounds_extendFlatCoords_b_E N) [] Try.f126 [.box [.k (.int .i64), .row 35 .float, .row 35 .float], .row 35 .float, .k (.int .i64), .k (.int .i64), .k (.int .i64)] [⟨[.par 0], [some (.box [.k (.int .i64), .row 35 .float, .row 35 .float]), some (.row 35 .float), none, none, none]⟩] (v1, v2, v3, v4, v5, ()) = gogeom_Bounds_extendFlatCoords_b_g N v1 v2 v3 v4 v5 (gogeom_Bounds_extendFlatCoords_b_e0 N N) from by kernel_rfl).trans (by rw [h0]; rfl)
noncomputable def gogeom_Bounds_extendFlatCoords_b_con (N : Nat) : Con2 := ⟨126, [.box [.k (.int .i64), .row 35 .float, .row 35 .float], .row 35 .float, .k (.int .i64), .k (.int .i64), .k (.int .i64)], [⟨[.par 0], [some (.box [.k (.int .i64), .row 35 .float, .row 35 .float]), some (.row 35 .float), none, none, none]⟩], fun x => gogeom_Bounds_extendFlatCoords_b N x.1 x.2.1 x.2.2.1 x.2.2.2.1 x.2.2.2.2.1⟩
theorem gogeom_Bounds_extendFlatCoords_b_s (N : Nat) : (gogeom_Bounds_extendFlatCoords_b_con N).Sound Try.prog :=
  Con2.sound_of (c := gogeom_Bounds_extendFlatCoords_b_con N) (E := (gogeom_Bounds_extendFlatCoords_b_E N)) (idle := []) Try.func126 (by kernel_rfl) (by kernel_rfl) ⟨(allCons (math_Min_s N) (allCons (math_Max_s N) allNil)), (allCons (gogeom_Bounds_extendStride_s N) allNil)⟩ allNil (fun x y h => (gogeom_Bounds_extendFlatCoords_b_t N x.1 x.2.1 x.2.2.1 x.2.2.2.1 x.2.2.2.2.1).trans h)
/-- (*pub-orthodrome/pub/gogeom.geom0).Bounds -/
noncomputable def gogeom_geom0_Bounds_b_E (N : Nat) : Env := ⟨Try.prog, N, [], [(0, ⟨[], [], [0], [1000000, 1000001, 1000002], none⟩), (1, ⟨[], [], [0], [1000000, 1000001, 1000002], none⟩)], kdL [], [gogeom_NewBounds_con N, gogeom_Bounds_extendFlatCoords_b_con N]⟩
def gogeom_geom0_Bounds_b_g (N : Nat) (v1 : (Int × Int × (List Nat) × Int × (List Int) × Unit)) : Option (((Int × (List Nat) × (List Nat) × Unit) × (Int × Int × (List Nat) × Int × (List Int) × Unit) × Unit)) :=
  ((gogeom_NewBounds N v1.1).bind fun v2 => (gogeom_Bounds_extendFlatCoords_b N (v2.1.1, v2.1.2.1, v2.1.2.2.1, ()) v1.2.2.1 0 (v1.2.2.1.length : Int) v1.2.1).bind fun v3 => (some ((v3.2.1.1, v3.2.1.2.1, v3.2.1.2.2.1, ()), (v1.1, v1.2.1, v3.2.2.1, v1.2.2.2.1, v1.2.2.2.2.1, ()), ())))
def gogeom_geom0_Bounds_b (N : Nat) (v1 : (Int × Int × (List Nat) × Int × (List Int) × Unit)) : Option (((Int × (List Nat) × (List Nat) × Unit) × (Int × Int × (List Nat) × Int × (List Int) × Unit) × Unit)) :=
  gogeom_geom0_Bounds_b_g N v1
set_option maxRecDepth 100000
theorem gogeom_geom0_Bounds_b_t (N : Nat) (v1 : (Int × Int × (List Nat) × Int × (List Int) × Unit)) : evF2 (gogeom_geom0_Bounds_b_E N) [] Try.f168 [.box [.k (.int .i64), .k (.int .i64), .row 35 .float, .k (.int .i64), .row 3 (.int .i64)]] [⟨[.box [.k (.int .i64), .row 35 .float, .row 35 .float]], [some (.box [.k (.int .i64), .k (.int .i64), .row 35 .float, .k (.int .i64), .row 3 (.int .i64)])]⟩] (v1, ()) = gogeom_geom0_Bounds_b N v1 := by
  exact (show evF2 (gogeom_geom0_Bounds_b_E N) [] Try.f168 [.box [.k (.int .i64), .k (.int .i64), .row 35 .float, .k (.int .i64), .row 3 (.int .i64)]] [⟨[.box [.k (.int .i64), .row 35 .float, .row 35 .float]], [some (.box [.k (.int .i64), .k (.int .i64), .row 35 .float, .k (.int .i64), .row 3 (.int .i64)])]⟩] (v1, ()) = gogeom_geom0_Bounds_b_g N v1 from by kernel_rfl).trans (by rfl)
noncomputable def gogeom_geom0_Bounds_b_con (N : Nat) : Con2 := ⟨168, [.box [.k (.int .i64), .k (.int .i64), .row 35 .float, .k (.int .i64), .row 3 (.int .i64)]], [⟨[.box [.k (.int .i64), .row 35 .float, .row 35 .float]], [some (.box [.k (.int .i64), .k (.int .i64), .row 35 .float, .k (.int .i64), .row 3 (.int .i64)])]⟩], fun x => gogeom_geom0_Bounds_b N x.1⟩
theorem gogeom_geom0_Bounds_b_s (N : Nat) : (gogeom_geom0_Bounds_b_con N).Sound Try.prog :=
  Con2.sound_of (c := gogeom_geom0_Bounds_b_con N) (E := (gogeom_geom0_Bounds_b_E N)) (idle := []) Try.func168 (by kernel_rfl) (by kernel_rfl) ⟨allNil, (allCons (gogeom_NewBounds_s N) (allCons (gogeom_Bounds_extendFlatCoords_b_s N) allNil))⟩ allNil (fun x y h => (gogeom_geom0_Bounds_b_t N x.1).trans h)
/-- (*pub-orthodrome/pub/gogeom.geom0).Bounds -/
noncomputable def gogeom_geom0_Bounds_c_E (N : Nat) : Env := ⟨Try.prog, N, [], [(0, ⟨[], [], [0], [1000000], none⟩), (1, ⟨[], [], [0], [1000000], none⟩)], kdL [], [gogeom_NewBounds_con N, gogeom_Bounds_extendFlatCoords_con N]⟩
def gogeom_geom0_Bounds_c_g (N : Nat) (v1 : (Int × Int × (List Nat) × Int × (List (List Int)) × Unit)) : Option (((Int × (List Nat) × (List Nat) × Unit) × (Int × Int × (List Nat) × Int × (List (List Int)) × Unit) × Unit)) :=
  ((gogeom_NewBounds N v1.1).bind fun v2 => (gogeom_Bounds_extendFlatCoords N (v2.1.1, v2.1.2.1, v2.1.2.2.1, ()) v1.2.2.1 0 (v1.2.2.1.length : Int) v1.2.1).bind fun v3 => (some ((v3.2.1.1, v3.2.1.2.1, v3.2.1.2.2.1, ()), (v1.1, v1.2.1, v1.2.2.1, v1.2.2.2.1, v1.2.2.2.2.1, ()), ())))
def gogeom_geom0_Bounds_c (N : Nat) (v1 : (Int × Int × (List Nat) × Int × (List (List Int)) × Unit)) : Option (((Int × (List Nat) × (List Nat) × Unit) × (Int × Int × (List Nat) × Int × (List (List Int)) × Unit) × Unit)) :=
  gogeom_geom0_Bounds_c_g N v1
set_option maxRecDepth 100000
theorem gogeom_geom0_Bounds_c_t (N : Nat) (v1 : (Int × Int × (List Nat) × Int × (List (List Int)) × Unit)) : evF2 (gogeom_geom0_Bounds_c_E N) [] Try.f168 [.box [.k (.int .i64), .k (.int .i64), .k (.list .float), .k (.int .i64), .k (.list (.list (.int .i64)))]] [⟨[.box [.k (.int .i64), .row 35 .float, .row 35 .float]], [some (.box [.k (.int .i64), .k (.int .i64), .k (.list .float), .k (.int .i64), .k (.list (.list (.int .i64)))])]⟩] (v1, ()) = gogeom_geom0_Bounds_c N v1 := by
  exact (show evF2 (gogeom_geom0_Bounds_c_E N) [] Try.f168 [.box [.k (.int .i64), .k (.int .i64), .k (.list .float), .k (.int .i64), .k (.list (.list (.int .i64)))]] [⟨[.box [.k (.int .i64), .row 35 .float, .row 35 .float]], [some (.box [.k (.int .i64), .k (.int .i64), .k (.list .float), .k (.int .i64), .k (.list (.list (.int .i64)))])]⟩] (v1, ()) = gogeom_geom0_Bounds_c_g N v1 from by kernel_rfl).trans (by rfl)
noncomputable def gogeom_geom0_Bounds_c_con (N : Nat) : Con2 := ⟨168, [.box [.k (.int .i64), .k (.int .i64), .k (.list .float), .k (.int .i64), .k (.list (.list (.int .i64)))]], [⟨[.box [.k (.int .i64), .row 35 .float, .row 35 .float]], [some (.box [.k (.int .i64), .k (.int .i64), .k (.list .float), .k (.int .i64), .k (.list (.list (.int .i64)))])]⟩], fun x => gogeom_geom0_Bounds_c N x.1⟩
theorem gogeom_geom0_Bounds_c_s (N : Nat) : (gogeom_geom0_Bounds_c_con N).Sound Try.prog :=
  Con2.sound_of (c := gogeom_geom0_Bounds_c_con N) (E := (gogeom_geom0_Bounds_c_E N)) (idle := []) Try.func168 (by kernel_rfl) (by kernel_rfl) ⟨allNil, (allCons (gogeom_NewBounds_s N) (allCons (gogeom_Bounds_extendFlatCoords_s N) allNil))⟩ allNil (fun x y h => (gogeom_geom0_Bounds_c_t N x.1).trans h)
/-- pub-orthodrome/impl.Bounds -/
noncomputable def impl_Bounds_E (N : Nat) : Env := ⟨Try.prog, N, [], [(0, ⟨[], [], [0], [], none⟩), (1, ⟨[], [], [1, 2, 3], [1, 2, 3], none⟩), (2, ⟨[], [], [1, 2, 3], [1, 2, 3], none⟩)], kdL [], [impl_geometry_con N, gogeom_geom0_Bounds_con N, impl_plainBox_con N, gogeom_geom0_Bounds_b_con N, gogeom_geom0_Bounds_c_con N]⟩
def impl_Bounds_g (N : Nat) (v1 : Geo) : Option (((Int × (List Nat) × (List Nat) × Unit) × Bool × Unit)) :=
  ((impl_geometry N (Geo.mk v1.kind v1.layout v1.srid v1.flat v1.ends v1.endss v1.kids)).bind fun v2 => Sum.elim (fun v3 => (gogeom_geom0_Bounds N (v3.1.1, v3.1.2.1, v3.1.2.2.1, v3.1.2.2.2.1, ())).bind fun v5 => (impl_plainBox N (v5.1.1, v5.1.2.1, v5.1.2.2.1, ())).bind fun v6 => (some ((v6.1.1, v6.1.2.1, v6.1.2.2.1, ()), true, ()))) (fun v4 => Sum.elim (fun v7 => (gogeom_geom0_Bounds N (v7.1.1, v7.1.2.1, v7.1.2.2.1, v7.1.2.2.2.1, ())).bind fun v9 => (impl_plainBox N (v9.1.1, v9.1.2.1, v9.1.2.2.1, ())).bind fun v10 => (some ((v10.1.1, v10.1.2.1, v10.1.2.2.1, ()), true, ()))) (fun v8 => Sum.elim (fun v11 => (gogeom_geom0_Bounds N (v11.1.1, v11.1.2.1, v11.1.2.2.1, v11.1.2.2.2.1, ())).bind fun v13 => (impl_plainBox N (v13.1.1, v13.1.2.1, v13.1.2.2.1, ())).bind fun v14 => (some ((v14.1.1, v14.1.2.1, v14.1.2.2.1, ()), true, ()))) (fun v12 => Sum.elim (fun v15 => (gogeom_geom0_Bounds_b N (v15.1.1, v15.1.2.1, v15.1.2.2.1, v15.1.2.2.2.1, v15.1.2.2.2.2.1, ())).bind fun v17 => (impl_plainBox N (v17.1.1, v17.1.2.1, v17.1.2.2.1, ())).bind fun v18 => (some ((v18.1.1, v18.1.2.1, v18.1.2.2.1, ()), true, ()))) (fun v16 => Sum.elim (fun v19 => (gogeom_geom0_Bounds_b N (v19.1.1, v19.1.2.1, v19.1.2.2.1, v19.1.2.2.2.1, v19.1.2.2.2.2.1, ())).bind fun v21 => (impl_plainBox N (v21.1.1, v21.1.2.1, v21.1.2.2.1, ())).bind fun v22 => (some ((v22.1.1, v22.1.2.1, v22.1.2.2.1, ()), true, ()))) (fun v20 => (gogeom_geom0_Bounds_c N (v20.1.1, v20.1.2.1, v20.1.2.2.1, v20.1.2.2.2.1, v20.1.2.2.2.2.1, ())).bind fun v23 => (impl_plainBox N (v23.1.1, v23.1.2.1, v23.1.2.2.1, ())).bind fun v24 => (some ((v24.1.1, v24.1.2.1, v24.1.2.2.1, ()), true, ()))) v16) v12) v8) v4) v2)
def impl_Bounds (N : Nat) (v1 : Geo) : Option (((Int × (List Nat) × (List Nat) × Unit) × Bool × Unit)) :=
  impl_Bounds_g N v1
set_option maxRecDepth 100000
theorem impl_Bounds_t (N : Nat) (v1 : Geo) : evF2 (impl_Bounds_E N) [85] Try.f44 [.k .geo] [⟨[.agg [.k (.int .i64), .row 35 .float, .row 35 .float], .k .bool], [none]⟩] (v1, ()) = impl_Bounds N v1 := by
  exact (show evF2 (impl_Bounds_E N) [85] Try.f44 [.k .geo] [⟨[.agg [.k (.int .i64), .row 35 .float, .row 35 .float], .k .bool], [none]⟩] (v1, ()) = impl_Bounds_g N v1 from by kernel_rfl).trans (by rfl)
noncomputable def impl_Bounds_con (N : Nat) : Con2 := ⟨44, [.k .geo], [⟨[.agg [.k (.int .i64), .row 35 .float, .row 35 .float], .k .bool], [none]⟩], fun x => impl_Bounds N x.1⟩
theorem impl_Bounds_s (N : Nat) : (impl_Bounds_con N).Sound Try.prog :=
  Con2.sound_of (c := impl_Bounds_con N) (E := (impl_Bounds_E N)) (idle := [85]) Try.func44 (by kernel_rfl) (by kernel_rfl) ⟨allNil, (allCons (impl_geometry_s N) (allCons (gogeom_geom0_Bounds_s N) (allCons (impl_plainBox_s N) (allCons (gogeom_geom0_Bounds_b_s N) (allCons (gogeom_geom0_Bounds_c_s N) allNil)))))⟩ (allCons (idle_of Try.func85 (by kernel_rfl)) allNil) (fun x y h => (impl_Bounds_t N x.1).trans h)
/-- pub-orthodrome/laws.FnBoxPolygonBack -/
noncomputable def laws_FnBoxPolygonBack_E (N : Nat) : Env := ⟨Try.prog, N, [laws_zzFits1_con N, laws_bBox_con N, spec_BoxEmpty_con N, spec_SameBox_con N], [(0, ⟨[], [], [0], [], none⟩), (1, ⟨[], [], [1], [1], none⟩), (2, ⟨[], [], [1, 9], [1], none⟩), (3, ⟨[], [], [1], [1], none⟩), (4, ⟨[], [], [1, 22], [1], some N⟩), (5, ⟨[], [], [1], [1], none⟩), (6, ⟨[], [], [1, 3, 4], [1, 3, 101250, 101251, 101252, 101253], none⟩), (7, ⟨[], [], [1, 4, 5, 6], [1, 5, 101500, 101501], none⟩)], kdL [(24, (.pair (.int .i64) (.pair (.list .float) (.pair (.list .float) .unit))))], [impl_BoxPolygon_con N, impl_Bounds_con N]⟩
def laws_FnBoxPolygonBack_g0 (N : Nat) (v1 : (Int × ((List Nat) × ((List Nat) × Unit)))) : Option (Bool) :=
  (some true)
def laws_FnBoxPolygonBack_j0 (N : Nat) (v1 : (Int × ((List Nat) × ((List Nat) × Unit)))) : Option (Bool) :=
  gate N (laws_FnBoxPolygonBack_g0 N v1)
def laws_FnBoxPolygonBack_g (N : Nat) (v1 : (Int × ((List Nat) × ((List Nat) × Unit)))) (c0 : (Int × ((List Nat) × ((List Nat) × Unit))) → Option (Bool)) : Option (Bool) :=
  ((laws_zzFits1 N (v1.1, v1.2.1, v1.2.2.1, ())).bind fun v2 => (bif (!v2) then (some true) else ((laws_bBox N ([(v1.1, v1.2.1, v1.2.2.1, ())] : List (Int × ((List Nat) × ((List Nat) × Unit))))).bind fun v3 => bif (!v3) then (c0 v1) else (bif (v1.1 != 1) then (c0 v1) else ((spec_BoxEmpty N (v1.1, v1.2.1, v1.2.2.1, ())).bind fun v4 => (gate N (bif v4 then (some true) else ((impl_BoxPolygon N (v1.1, v1.2.1, v1.2.2.1, ())).bind fun v5 => ((impl_Bounds N (Geo.mk v5.1.1 v5.1.2.1 v5.1.2.2.1 v5.1.2.2.2.1 v5.1.2.2.2.2.1 v5.1.2.2.2.2.2.1 v5.1.2.2.2.2.2.2.1)).bind fun v6 => (bif v5.2.1 then (bif v6.2.1 then ((spec_SameBox N (v6.1.1, v6.1.2.1, v6.1.2.2.1, ()) (v1.1, v1.2.1, v1.2.2.1, ())).bind fun v7 => (some v7)) else (some false)) else (some false)))))))))))
def laws_FnBoxPolygonBack (N : Nat) (v1 : (Int × ((List Nat) × ((List Nat) × Unit)))) : Option (Bool) :=
  laws_FnBoxPolygonBack_g N v1 (laws_FnBoxPolygonBack_j0 N)
set_option maxRecDepth 100000
noncomputable def laws_FnBoxPolygonBack_e0 (N : Nat) (v1 : (Int × ((List Nat) × ((List Nat) × Unit)))) : Option (HR [.bool]) :=
  gate N (evC (laws_FnBoxPolygonBack_E N) (codeAt (bodyOf Try.f11) [1, 1, 0, 1]) ⟨[(1, .ref 1 0), (22, .pv .bool true)], [(1, .box [.pv (.int .i64) v1.1, .pv (.list .float) v1.2.1, .pv (.list .float) v1.2.2.1])], []⟩ (kSeq (advOf (laws_FnBoxPolygonBack_E N) (codeAt (bodyOf Try.f11) [1, 1, 1])) (evC (laws_FnBoxPolygonBack_E N) (codeAt (bodyOf Try.f11) [1, 1, 1])) (kEnd (laws_FnBoxPolygonBack_E N) [] Try.f11.results.toList [.bool])))
theorem laws_FnBoxPolygonBack_t0 (N : Nat) (v1 : (Int × ((List Nat) × ((List Nat) × Unit)))) : laws_FnBoxPolygonBack_e0 N v1 = laws_FnBoxPolygonBack_j0 N v1 := by
  exact (congrArg (gate N) (show evC (laws_FnBoxPolygonBack_E N) (codeAt (bodyOf Try.f11) [1, 1, 0, 1]) ⟨[(1, .ref 1 0), (22, .pv .bool true)], [(1, .box [.pv (.int .i64) v1.1, .pv (.list .float) v1.2.1, .pv (.list .float) v1.2.2.1])], []⟩ (kSeq (advOf (laws_FnBoxPolygonBack_E N) (codeAt (bodyOf Try.f11) [1, 1, 1])) (evC (laws_FnBoxPolygonBack_E N) (codeAt (bodyOf Try.f11) [1, 1, 1])) (kEnd (laws_FnBoxPolygonBack_E N) [] Try.f11.results.toList [.bool])) = laws_FnBoxPolygonBack_g0 N v1 from by kernel_rfl)).trans (by rfl)
theorem laws_FnBoxPolygonBack_t (N : Nat) (v1 : (Int × ((List Nat) × ((List Nat) × Unit)))) : evF (laws_FnBoxPolygonBack_E N) [] Try.f11 [.k (.pair (.int .i64) (.pair (.list .float) (.pair (.list .float) .unit)))] [.bool] (v1, ()) = laws_FnBoxPolygonBack N v1 := by
  have h0 : (laws_FnBoxPolygonBack_e0 N) = (laws_FnBoxPolygonBack_j0 N) := by funext v1; exact laws_FnBoxPolygonBack_t0 N v1
  exact (show evF (laws_FnBoxPolygonBack_E N) [] Try.f11 [.k (.pair (.int .i64) (.pair (.list .float) (.pair (.list .float) .unit)))] [.bool] (v1, ()) = laws_FnBoxPolygonBack_g N v1 (laws_FnBoxPolygonBack_e0 N) from by kernel_rfl).trans (by rw [h0]; rfl)
noncomputable def laws_FnBoxPolygonBack_con (N : Nat) : Con := ⟨11, [.k (.pair (.int .i64) (.pair (.list .float) (.pair (.list .float) .unit)))], [.bool], fun x => laws_FnBoxPolygonBack N x.1⟩
theorem laws_FnBoxPolygonBack_s (N : Nat) : (laws_FnBoxPolygonBack_con N).Sound Try.prog :=
  Con.sound_of (c := laws_FnBoxPolygonBack_con N) (E := (laws_FnBoxPolygonBack_E N)) (idle := []) Try.func11 (by kernel_rfl) (by kernel_rfl) ⟨(allCons (laws_zzFits1_s N) (allCons (laws_bBox_s N) (allCons (spec_BoxEmpty_s N) (allCons (spec_SameBox_s N) allNil)))), (allCons (impl_BoxPolygon_s N) (allCons (impl_Bounds_s N) allNil))⟩ allNil (fun x y h => (laws_FnBoxPolygonBack_t N x.1).trans h)
end Go.Proofs.Ytfhplocmlmmnoaa.G11
