import Derived.Test.YtcppjdjimmnlkabProg
import Derived.Test.YtcppjdjimmnlkabAv16
import Derived.Test.YtcppjdjimmnlkabAv19
import Derived.Test.YtcppjdjimmnlkabAv20
import Derived.Test.YtcppjdjimmnlkabAv21
import Derived.Test.YtcppjdjimmnlkabAv25
import Derived.KernelRfl
set_option linter.unusedVariables false
namespace Go.Proofs.Ytcppjdjimmnlkab.FBox
open Go Go.Av
/-- pub-orthodrome/laws.zzFits1 -/
noncomputable def laws_zzFits1_E (N : Nat) : Env := ⟨Try.prog, N, [], [(0, ⟨[], [], [0], [], none⟩), (1, ⟨[], [], [1], [1], none⟩), (2, ⟨[], [], [1, 6], [1], none⟩), (3, ⟨[], [], [1], [1], none⟩), (4, ⟨[], [], [10], [], none⟩), (5, ⟨[], [], [], [], none⟩)], kdL [], []⟩
def laws_zzFits1_g (N : Nat) (v1 : (Int × ((List Nat) × ((List Nat) × Unit)))) : Option (Bool) :=
  (bif (decide (((v1.2.1.length : Int) : Int) > 2147483647)) then (some false) else (bif (decide (((v1.2.2.1.length : Int) : Int) > 2147483647)) then (some false) else (some true)))
def laws_zzFits1 (N : Nat) (v1 : (Int × ((List Nat) × ((List Nat) × Unit)))) : Option (Bool) :=
  laws_zzFits1_g N v1
set_option maxRecDepth 100000
theorem laws_zzFits1_t (N : Nat) (v1 : (Int × ((List Nat) × ((List Nat) × Unit)))) : evF (laws_zzFits1_E N) [] Try.f4 [.k (.pair (.int .i64) (.pair (.list .float) (.pair (.list .float) .unit)))] [.bool] (v1, ()) = laws_zzFits1 N v1 := by
  exact (show evF (laws_zzFits1_E N) [] Try.f4 [.k (.pair (.int .i64) (.pair (.list .float) (.pair (.list .float) .unit)))] [.bool] (v1, ()) = laws_zzFits1_g N v1 from by kernel_rfl).trans (by rfl)
noncomputable def laws_zzFits1_con (N : Nat) : Con := ⟨4, [.k (.pair (.int .i64) (.pair (.list .float) (.pair (.list .float) .unit)))], [.bool], fun x => laws_zzFits1 N x.1⟩
theorem laws_zzFits1_s (N : Nat) : (laws_zzFits1_con N).Sound Try.prog :=
  Con.sound_of (c := laws_zzFits1_con N) (E := (laws_zzFits1_E N)) (idle := []) Try.func4 (by kernel_rfl) (by kernel_rfl) ⟨allNil, allNil⟩ allNil (fun x y h => (laws_zzFits1_t N x.1).trans h)
/-- pub-orthodrome/spec.Stride -/
noncomputable def spec_Stride_E (N : Nat) : Env := ⟨Try.prog, N, [], [(0, ⟨[], [], [0], [], none⟩), (1, ⟨[], [], [0], [], none⟩), (2, ⟨[], [], [0, 3], [], none⟩), (4, ⟨[], [], [0, 6], [], none⟩), (6, ⟨[], [], [0, 9], [], none⟩), (7, ⟨[], [], [0], [], none⟩)], kdL [], []⟩
def spec_Stride_g (N : Nat) (v1 : Int) : Option (Int) :=
  (bif (decide ((v1 : Int) < 1)) then (some 0) else (bif (v1 == 1) then (some 2) else (bif (v1 == 2) then (some 3) else (bif (v1 == 3) then (some 3) else (some v1)))))
def spec_Stride (N : Nat) (v1 : Int) : Option (Int) :=
  spec_Stride_g N v1
set_option maxRecDepth 100000
theorem spec_Stride_t (N : Nat) (v1 : Int) : evF (spec_Stride_E N) [] Try.f6 [.k (.int .i64)] [(.int .i64)] (v1, ()) = spec_Stride N v1 := by
  exact (show evF (spec_Stride_E N) [] Try.f6 [.k (.int .i64)] [(.int .i64)] (v1, ()) = spec_Stride_g N v1 from by kernel_rfl).trans (by rfl)
noncomputable def spec_Stride_con (N : Nat) : Con := ⟨6, [.k (.int .i64)], [(.int .i64)], fun x => spec_Stride N x.1⟩
theorem spec_Stride_s (N : Nat) : (spec_Stride_con N).Sound Try.prog :=
  Con.sound_of (c := spec_Stride_con N) (E := (spec_Stride_E N)) (idle := []) Try.func6 (by kernel_rfl) (by kernel_rfl) ⟨allNil, allNil⟩ allNil (fun x y h => (spec_Stride_t N x.1).trans h)
/-- pub-orthodrome/laws.gNumber -/
noncomputable def laws_gNumber_E (N : Nat) : Env := ⟨Try.prog, N, [], [(0, ⟨[], [], [0], [], none⟩), (1, ⟨[], [], [0], [], none⟩)], kdL [], []⟩
def laws_gNumber_g (N : Nat) (v1 : Nat) : Option (Bool) :=
  (some (feq v1 v1))
def laws_gNumber (N : Nat) (v1 : Nat) : Option (Bool) :=
  laws_gNumber_g N v1
set_option maxRecDepth 100000
theorem laws_gNumber_t (N : Nat) (v1 : Nat) : evF (laws_gNumber_E N) [] Try.f8 [.k .float] [.bool] (v1, ()) = laws_gNumber N v1 := by
  exact (show evF (laws_gNumber_E N) [] Try.f8 [.k .float] [.bool] (v1, ()) = laws_gNumber_g N v1 from by kernel_rfl).trans (by rfl)
noncomputable def laws_gNumber_con (N : Nat) : Con := ⟨8, [.k .float], [.bool], fun x => laws_gNumber N x.1⟩
theorem laws_gNumber_s (N : Nat) : (laws_gNumber_con N).Sound Try.prog :=
  Con.sound_of (c := laws_gNumber_con N) (E := (laws_gNumber_E N)) (idle := []) Try.func8 (by kernel_rfl) (by kernel_rfl) ⟨allNil, allNil⟩ allNil (fun x y h => (laws_gNumber_t N x.1).trans h)
/-- pub-orthodrome/laws.bBox -/
noncomputable def laws_bBox_E (N : Nat) : Env := ⟨Try.prog, N, [spec_Stride_con N, laws_gNumber_con N], [(0, ⟨[], [], [0], [], none⟩), (1, ⟨[], [], [0], [], none⟩), (2, ⟨[], [], [6, 7, 8], [], none⟩), (3, ⟨[], [], [6, 7, 8], [], none⟩), (4, ⟨[], [], [4, 6, 7, 8], [4], none⟩), (5, ⟨[], [], [4, 6, 7, 8, 37], [4], some N⟩), (6, ⟨[], [], [4, 6, 7, 8], [4], none⟩), (7, ⟨[], [], [4, 6, 7, 8, 40, 41], [4], none⟩), (8, ⟨[], [], [4, 6, 7, 8, 40, 41], [4], none⟩), (9, ⟨[], [], [4, 5, 6, 7, 8, 40, 41], [4], none⟩), (10, ⟨[], [], [4, 6, 7, 8, 40, 41, 59], [4], none⟩), (11, ⟨[], [], [4, 6, 7, 8, 40, 41], [4], none⟩), (12, ⟨[], [], [6, 7, 8], [], none⟩), (13, ⟨[], [], [], [], none⟩)], kdL [], []⟩
def laws_bBox_g1 (N : Nat) (v1 : (List (Int × ((List Nat) × ((List Nat) × Unit))))) (v13 : Int) (v14 : (Int × ((List Nat) × ((List Nat) × Unit)))) (r0 : Int → Option (Bool)) : Option (Bool) :=
  (some false)
def laws_bBox_j1 (N : Nat) (r0 : Int → Option (Bool)) (v1 : (List (Int × ((List Nat) × ((List Nat) × Unit))))) (v13 : Int) (v14 : (Int × ((List Nat) × ((List Nat) × Unit)))) : Option (Bool) :=
  gate N (laws_bBox_g1 N v1 v13 v14 r0)
def laws_bBox_g2 (N : Nat) (v1 : (List (Int × ((List Nat) × ((List Nat) × Unit))))) (v13 : Int) (v14 : (Int × ((List Nat) × ((List Nat) × Unit)))) (r2 : Int → Option (Bool)) (r0 : Int → Option (Bool)) (v20 : Int) : Option (Bool) :=
  (bif (decide ((v20 : Int) < (v14.2.1.length : Int))) then ((nth v14.2.1 v20).bind fun v21 => (laws_gNumber N v21).bind fun v22 => bif (!v22) then (some false) else ((nth v14.2.2.1 v20).bind fun v23 => (laws_gNumber N v23).bind fun v24 => (bif (!v24) then (some false) else ((r2 (IntKind.i64.wrap (v20 + 1))))))) else ((r0 (IntKind.i64.wrap (v13 + 1)))))
def laws_bBox_l2 (N : Nat) (r0 : Int → Option (Bool)) (v1 : (List (Int × ((List Nat) × ((List Nat) × Unit))))) : Nat → Int → (Int × ((List Nat) × ((List Nat) × Unit))) → Int → Option (Bool)
  | 0, _, _, _ => none
  | n + 1, v13, v14, v20 => laws_bBox_g2 N v1 v13 v14 (laws_bBox_l2 N r0 v1 n v13 v14) r0 v20
def laws_bBox_g0 (N : Nat) (v1 : (List (Int × ((List Nat) × ((List Nat) × Unit))))) (c1 : Int → (Int × ((List Nat) × ((List Nat) × Unit))) → Option (Bool)) (c2 : Int → (Int × ((List Nat) × ((List Nat) × Unit))) → Int → Option (Bool)) (r0 : Int → Option (Bool)) (v13 : Int) : Option (Bool) :=
  (bif (decide ((v13 : Int) < (v1.length : Int))) then ((nth v1 v13).bind fun v14 => (bif (decide ((v14.1 : Int) < 0)) then (c1 v13 v14) else (bif (decide ((v14.1 : Int) > 9)) then (c1 v13 v14) else ((spec_Stride N v14.1).bind fun v15 => bif ((v14.2.1.length : Int) != v15) then (c1 v13 v14) else (gate N (bif ((v14.2.2.1.length : Int) != (v14.2.1.length : Int)) then (some false) else ((c2 v13 v14 0)))))))) else (some true))
def laws_bBox_l0 (N : Nat) : Nat → (List (Int × ((List Nat) × ((List Nat) × Unit)))) → Int → Option (Bool)
  | 0, _, _ => none
  | n + 1, v1, v13 => laws_bBox_g0 N v1 (laws_bBox_j1 N (laws_bBox_l0 N n v1) v1) (laws_bBox_l2 N (laws_bBox_l0 N n v1) v1 N) (laws_bBox_l0 N n v1) v13
def laws_bBox_g (N : Nat) (v1 : (List (Int × ((List Nat) × ((List Nat) × Unit))))) (c0 : (List (Int × ((List Nat) × ((List Nat) × Unit)))) → Int → Option (Bool)) : Option (Bool) :=
  ((c0 v1 0))
def laws_bBox (N : Nat) (v1 : (List (Int × ((List Nat) × ((List Nat) × Unit))))) : Option (Bool) :=
  laws_bBox_g N v1 (laws_bBox_l0 N N)
set_option maxRecDepth 100000
noncomputable def laws_bBox_e1 (N : Nat) (m0 : Nat) (v1 : (List (Int × ((List Nat) × ((List Nat) × Unit))))) (v13 : Int) (v14 : (Int × ((List Nat) × ((List Nat) × Unit)))) : Option (HR [.bool]) :=
  gate N (evC (laws_bBox_E N) (codeAt (bodyOf Try.f5) [1, 0, 1, 0, 0, 1, 1, 0, 0, 1, 0, 1]) ⟨[(4, .ref 4 0), (6, .pv (.list (.pair (.int .i64) (.pair (.list .float) (.pair (.list .float) .unit)))) v1), (7, .pv (.int .i64) (v1.length : Int)), (8, .pv (.int .i64) v13), (37, .pv .bool true)], [(4, .box [.pv (.int .i64) v14.1, .pv (.list .float) v14.2.1, .pv (.list .float) v14.2.2.1])], []⟩ (kSeq (advOf (laws_bBox_E N) (codeAt (bodyOf Try.f5) [1, 0, 1, 0, 0, 1, 1, 0, 0, 1, 1])) (evC (laws_bBox_E N) (codeAt (bodyOf Try.f5) [1, 0, 1, 0, 0, 1, 1, 0, 0, 1, 1])) (kBlock 1 (kSeq (advOf (laws_bBox_E N) (codeAt (bodyOf Try.f5) [1, 0, 1, 0, 0, 1, 1, 1])) (evC (laws_bBox_E N) (codeAt (bodyOf Try.f5) [1, 0, 1, 0, 0, 1, 1, 1])) (kSeq (advOf (laws_bBox_E N) (codeAt (bodyOf Try.f5) [1, 0, 1, 0, 0])) (fun st K => loopN (advOf (laws_bBox_E N) (codeAt (bodyOf Try.f5) [1, 0, 1, 0, 0])) (evC (laws_bBox_E N) (codeAt (bodyOf Try.f5) [1, 0, 1, 0, 0])) m0 st K) (kBlock 0 (kSeq (advOf (laws_bBox_E N) (codeAt (bodyOf Try.f5) [1, 1])) (evC (laws_bBox_E N) (codeAt (bodyOf Try.f5) [1, 1])) (kEnd (laws_bBox_E N) [] Try.f5.results.toList [.bool]))))))))
noncomputable def laws_bBox_e2 (N : Nat) (m0 : Nat) (v1 : (List (Int × ((List Nat) × ((List Nat) × Unit))))) (n : Nat) (v13 : Int) (v14 : (Int × ((List Nat) × ((List Nat) × Unit)))) (v20 : Int) : Option (HR [.bool]) :=
  loopN (advOf (laws_bBox_E N) (codeAt (bodyOf Try.f5) [1, 0, 1, 0, 0, 1, 1, 0, 0, 1, 1, 1, 0, 0])) (evC (laws_bBox_E N) (codeAt (bodyOf Try.f5) [1, 0, 1, 0, 0, 1, 1, 0, 0, 1, 1, 1, 0, 0])) n ⟨[(4, .ref 4 0), (6, .pv (.list (.pair (.int .i64) (.pair (.list .float) (.pair (.list .float) .unit)))) v1), (7, .pv (.int .i64) (v1.length : Int)), (8, .pv (.int .i64) v13), (40, .pv (.int .i64) (v14.2.1.length : Int)), (41, .pv (.int .i64) v20)], [(4, .box [.pv (.int .i64) v14.1, .pv (.list .float) v14.2.1, .pv (.list .float) v14.2.2.1])], []⟩ (kBlock 2 (kBlock 1 (kSeq (advOf (laws_bBox_E N) (codeAt (bodyOf Try.f5) [1, 0, 1, 0, 0, 1, 1, 1])) (evC (laws_bBox_E N) (codeAt (bodyOf Try.f5) [1, 0, 1, 0, 0, 1, 1, 1])) (kSeq (advOf (laws_bBox_E N) (codeAt (bodyOf Try.f5) [1, 0, 1, 0, 0])) (fun st K => loopN (advOf (laws_bBox_E N) (codeAt (bodyOf Try.f5) [1, 0, 1, 0, 0])) (evC (laws_bBox_E N) (codeAt (bodyOf Try.f5) [1, 0, 1, 0, 0])) m0 st K) (kBlock 0 (kSeq (advOf (laws_bBox_E N) (codeAt (bodyOf Try.f5) [1, 1])) (evC (laws_bBox_E N) (codeAt (bodyOf Try.f5) [1, 1])) (kEnd (laws_bBox_E N) [] Try.f5.results.toList [.bool])))))))
noncomputable def laws_bBox_e0 (N : Nat) (n : Nat) (v1 : (List (Int × ((List Nat) × ((List Nat) × Unit))))) (v13 : Int) : Option (HR [.bool]) :=
  loopN (advOf (laws_bBox_E N) (codeAt (bodyOf Try.f5) [1, 0, 1, 0, 0])) (evC (laws_bBox_E N) (codeAt (bodyOf Try.f5) [1, 0, 1, 0, 0])) n ⟨[(6, .pv (.list (.pair (.int .i64) (.pair (.list .float) (.pair (.list .float) .unit)))) v1), (7, .pv (.int .i64) (v1.length : Int)), (8, .pv (.int .i64) v13)], [], []⟩ (kBlock 0 (kSeq (advOf (laws_bBox_E N) (codeAt (bodyOf Try.f5) [1, 1])) (evC (laws_bBox_E N) (codeAt (bodyOf Try.f5) [1, 1])) (kEnd (laws_bBox_E N) [] Try.f5.results.toList [.bool])))
theorem laws_bBox_t1 (N : Nat) (m0 : Nat) (v1 : (List (Int × ((List Nat) × ((List Nat) × Unit))))) (v13 : Int) (v14 : (Int × ((List Nat) × ((List Nat) × Unit)))) : laws_bBox_e1 N m0 v1 v13 v14 = laws_bBox_j1 N (laws_bBox_e0 N m0 v1) v1 v13 v14 := by
  exact (congrArg (gate N) (show evC (laws_bBox_E N) (codeAt (bodyOf Try.f5) [1, 0, 1, 0, 0, 1, 1, 0, 0, 1, 0, 1]) ⟨[(4, .ref 4 0), (6, .pv (.list (.pair (.int .i64) (.pair (.list .float) (.pair (.list .float) .unit)))) v1), (7, .pv (.int .i64) (v1.length : Int)), (8, .pv (.int .i64) v13), (37, .pv .bool true)], [(4, .box [.pv (.int .i64) v14.1, .pv (.list .float) v14.2.1, .pv (.list .float) v14.2.2.1])], []⟩ (kSeq (advOf (laws_bBox_E N) (codeAt (bodyOf Try.f5) [1, 0, 1, 0, 0, 1, 1, 0, 0, 1, 1])) (evC (laws_bBox_E N) (codeAt (bodyOf Try.f5) [1, 0, 1, 0, 0, 1, 1, 0, 0, 1, 1])) (kBlock 1 (kSeq (advOf (laws_bBox_E N) (codeAt (bodyOf Try.f5) [1, 0, 1, 0, 0, 1, 1, 1])) (evC (laws_bBox_E N) (codeAt (bodyOf Try.f5) [1, 0, 1, 0, 0, 1, 1, 1])) (kSeq (advOf (laws_bBox_E N) (codeAt (bodyOf Try.f5) [1, 0, 1, 0, 0])) (fun st K => loopN (advOf (laws_bBox_E N) (codeAt (bodyOf Try.f5) [1, 0, 1, 0, 0])) (evC (laws_bBox_E N) (codeAt (bodyOf Try.f5) [1, 0, 1, 0, 0])) m0 st K) (kBlock 0 (kSeq (advOf (laws_bBox_E N) (codeAt (bodyOf Try.f5) [1, 1])) (evC (laws_bBox_E N) (codeAt (bodyOf Try.f5) [1, 1])) (kEnd (laws_bBox_E N) [] Try.f5.results.toList [.bool]))))))) = laws_bBox_g1 N v1 v13 v14 (laws_bBox_e0 N m0 v1) from by kernel_rfl)).trans (by rfl)
theorem laws_bBox_t2 (N : Nat) (m0 : Nat) (v1 : (List (Int × ((List Nat) × ((List Nat) × Unit))))) : ∀ (n : Nat) (v13 : Int) (v14 : (Int × ((List Nat) × ((List Nat) × Unit)))) (v20 : Int), laws_bBox_e2 N m0 v1 n v13 v14 v20 = laws_bBox_l2 N (laws_bBox_e0 N m0 v1) v1 n v13 v14 v20
  | 0, _, _, _ => rfl
  | n + 1, v13, v14, v20 => by
    have h : laws_bBox_e2 N m0 v1 n v13 v14 = laws_bBox_l2 N (laws_bBox_e0 N m0 v1) v1 n v13 v14 := by funext v20; exact laws_bBox_t2 N m0 v1 n v13 v14 v20
    exact (show laws_bBox_e2 N m0 v1 (n + 1) v13 v14 v20 = laws_bBox_g2 N v1 v13 v14 (laws_bBox_e2 N m0 v1 n v13 v14) (laws_bBox_e0 N m0 v1) v20 from by kernel_rfl).trans (by rw [h]; rfl)
theorem laws_bBox_t0 (N : Nat) : ∀ (n : Nat) (v1 : (List (Int × ((List Nat) × ((List Nat) × Unit))))) (v13 : Int), laws_bBox_e0 N n v1 v13 = laws_bBox_l0 N n v1 v13
  | 0, _, _ => rfl
  | n + 1, v1, v13 => by
    have h1 : (laws_bBox_e1 N n v1) = (laws_bBox_j1 N (laws_bBox_e0 N n v1) v1) := by funext v13 v14; exact laws_bBox_t1 N n v1 v13 v14
    have h2 : (laws_bBox_e2 N n v1 N) = (laws_bBox_l2 N (laws_bBox_e0 N n v1) v1 N) := by funext v13 v14 v20; exact laws_bBox_t2 N n v1 N v13 v14 v20
    have h : laws_bBox_e0 N n v1 = laws_bBox_l0 N n v1 := by funext v13; exact laws_bBox_t0 N n v1 v13
    exact (show laws_bBox_e0 N (n + 1) v1 v13 = laws_bBox_g0 N v1 (laws_bBox_e1 N n v1) (laws_bBox_e2 N n v1 N) (laws_bBox_e0 N n v1) v13 from by kernel_rfl).trans (by rw [h1, h2, h]; rfl)
theorem laws_bBox_t (N : Nat) (v1 : (List (Int × ((List Nat) × ((List Nat) × Unit))))) : evF (laws_bBox_E N) [] Try.f5 [.k (.list (.pair (.int .i64) (.pair (.list .float) (.pair (.list .float) .unit))))] [.bool] (v1, ()) = laws_bBox N v1 := by
  have h0 : (laws_bBox_e0 N N) = (laws_bBox_l0 N N) := by funext v1 v13; exact laws_bBox_t0 N N v1 v13
  exact (show evF (laws_bBox_E N) [] Try.f5 [.k (.list (.pair (.int .i64) (.pair (.list .float) (.pair (.list .float) .unit))))] [.bool] (v1, ()) = laws_bBox_g N v1 (laws_bBox_e0 N N) from by kernel_rfl).trans (by rw [h0]; rfl)
noncomputable def laws_bBox_con (N : Nat) : Con := ⟨5, [.k (.list (.pair (.int .i64) (.pair (.list .float) (.pair (.list .float) .unit))))], [.bool], fun x => laws_bBox N x.1⟩
theorem laws_bBox_s (N : Nat) : (laws_bBox_con N).Sound Try.prog :=
  Con.sound_of (c := laws_bBox_con N) (E := (laws_bBox_E N)) (idle := []) Try.func5 (by kernel_rfl) (by kernel_rfl) ⟨(allCons (spec_Stride_s N) (allCons (laws_gNumber_s N) allNil)), allNil⟩ allNil (fun x y h => (laws_bBox_t N x.1).trans h)
/-- pub-orthodrome/impl.floats -/
noncomputable def impl_floats_E (N : Nat) : Env := ⟨Try.prog, N, [], [(0, ⟨[], [], [0], [], none⟩), (1, ⟨[], [], [0], [], none⟩)], kdL [(33, .float)], []⟩
def impl_floats_g (N : Nat) (v1 : (List Nat)) : Option (((List Nat) × Unit)) :=
  ((lim (v1.length * 8)).bind fun _ => (some (v1, ())))
def impl_floats (N : Nat) (v1 : (List Nat)) : Option (((List Nat) × Unit)) :=
  impl_floats_g N v1
set_option maxRecDepth 100000
theorem impl_floats_t (N : Nat) (v1 : (List Nat)) : evF2 (impl_floats_E N) [] Try.f13 [.k (.list .float)] [⟨[.row 33 .float], [none]⟩] (v1, ()) = impl_floats N v1 := by
  exact (show evF2 (impl_floats_E N) [] Try.f13 [.k (.list .float)] [⟨[.row 33 .float], [none]⟩] (v1, ()) = impl_floats_g N v1 from by kernel_rfl).trans (by rfl)
noncomputable def impl_floats_con (N : Nat) : Con2 := ⟨13, [.k (.list .float)], [⟨[.row 33 .float], [none]⟩], fun x => impl_floats N x.1⟩
theorem impl_floats_s (N : Nat) : (impl_floats_con N).Sound Try.prog :=
  Con2.sound_of (c := impl_floats_con N) (E := (impl_floats_E N)) (idle := []) Try.func13 (by kernel_rfl) (by kernel_rfl) ⟨allNil, allNil⟩ allNil (fun x y h => (impl_floats_t N x.1).trans h)
/-- pub-orthodrome/pub/gogeom.DoorBounds -/
noncomputable def gogeom_DoorBounds_b_E (N : Nat) : Env := ⟨Try.prog, N, [], [(0, ⟨[], [], [0, 1, 2], [1000000, 1000001], none⟩), (1, ⟨[], [], [0, 1, 2], [1000000, 1000001], none⟩)], kdL [], []⟩
def gogeom_DoorBounds_b_g (N : Nat) (v1 : Int) (v2 : (List Nat)) (v3 : (List Nat)) : Option (((Int × (List Nat) × (List Nat) × Unit) × Unit)) :=
  (some ((v1, v2, v3, ()), ()))
def gogeom_DoorBounds_b (N : Nat) (v1 : Int) (v2 : (List Nat)) (v3 : (List Nat)) : Option (((Int × (List Nat) × (List Nat) × Unit) × Unit)) :=
  gogeom_DoorBounds_b_g N v1 v2 v3
set_option maxRecDepth 100000
theorem gogeom_DoorBounds_b_t (N : Nat) (v1 : Int) (v2 : (List Nat)) (v3 : (List Nat)) : evF2 (gogeom_DoorBounds_b_E N) [] Try.f12 [.k (.int .i64), .row 33 .float, .row 33 .float] [⟨[.box [.k (.int .i64), .row 33 .float, .row 33 .float]], [none, none, none]⟩] (v1, v2, v3, ()) = gogeom_DoorBounds_b N v1 v2 v3 := by
  exact (show evF2 (gogeom_DoorBounds_b_E N) [] Try.f12 [.k (.int .i64), .row 33 .float, .row 33 .float] [⟨[.box [.k (.int .i64), .row 33 .float, .row 33 .float]], [none, none, none]⟩] (v1, v2, v3, ()) = gogeom_DoorBounds_b_g N v1 v2 v3 from by kernel_rfl).trans (by rfl)
noncomputable def gogeom_DoorBounds_b_con (N : Nat) : Con2 := ⟨12, [.k (.int .i64), .row 33 .float, .row 33 .float], [⟨[.box [.k (.int .i64), .row 33 .float, .row 33 .float]], [none, none, none]⟩], fun x => gogeom_DoorBounds_b N x.1 x.2.1 x.2.2.1⟩
theorem gogeom_DoorBounds_b_s (N : Nat) : (gogeom_DoorBounds_b_con N).Sound Try.prog :=
  Con2.sound_of (c := gogeom_DoorBounds_b_con N) (E := (gogeom_DoorBounds_b_E N)) (idle := []) Try.func12 (by kernel_rfl) (by kernel_rfl) ⟨allNil, allNil⟩ allNil (fun x y h => (gogeom_DoorBounds_b_t N x.1 x.2.1 x.2.2.1).trans h)
/-- pub-orthodrome/impl.box -/
noncomputable def impl_box_E (N : Nat) : Env := ⟨Try.prog, N, [], [(0, ⟨[], [], [0], [], none⟩), (1, ⟨[], [], [1], [1], none⟩)], kdL [], [impl_floats_con N, gogeom_DoorBounds_b_con N]⟩
def impl_box_g (N : Nat) (v1 : (Int × ((List Nat) × ((List Nat) × Unit)))) : Option (((Int × (List Nat) × (List Nat) × Unit) × Unit)) :=
  ((impl_floats N v1.2.1).bind fun v2 => (impl_floats N v1.2.2.1).bind fun v3 => (gogeom_DoorBounds_b N v1.1 v2.1 v3.1).bind fun v4 => (some ((v4.1.1, v4.1.2.1, v4.1.2.2.1, ()), ())))
def impl_box (N : Nat) (v1 : (Int × ((List Nat) × ((List Nat) × Unit)))) : Option (((Int × (List Nat) × (List Nat) × Unit) × Unit)) :=
  impl_box_g N v1
set_option maxRecDepth 100000
theorem impl_box_t (N : Nat) (v1 : (Int × ((List Nat) × ((List Nat) × Unit)))) : evF2 (impl_box_E N) [] Try.f10 [.k (.pair (.int .i64) (.pair (.list .float) (.pair (.list .float) .unit)))] [⟨[.box [.k (.int .i64), .row 33 .float, .row 33 .float]], [none]⟩] (v1, ()) = impl_box N v1 := by
  exact (show evF2 (impl_box_E N) [] Try.f10 [.k (.pair (.int .i64) (.pair (.list .float) (.pair (.list .float) .unit)))] [⟨[.box [.k (.int .i64), .row 33 .float, .row 33 .float]], [none]⟩] (v1, ()) = impl_box_g N v1 from by kernel_rfl).trans (by rfl)
noncomputable def impl_box_con (N : Nat) : Con2 := ⟨10, [.k (.pair (.int .i64) (.pair (.list .float) (.pair (.list .float) .unit)))], [⟨[.box [.k (.int .i64), .row 33 .float, .row 33 .float]], [none]⟩], fun x => impl_box N x.1⟩
theorem impl_box_s (N : Nat) : (impl_box_con N).Sound Try.prog :=
  Con2.sound_of (c := impl_box_con N) (E := (impl_box_E N)) (idle := []) Try.func10 (by kernel_rfl) (by kernel_rfl) ⟨allNil, (allCons (impl_floats_s N) (allCons (gogeom_DoorBounds_b_s N) allNil))⟩ allNil (fun x y h => (impl_box_t N x.1).trans h)
/-- (pub-orthodrome/pub/gogeom.Layout).Stride -/
noncomputable def gogeom_Layout_Stride_E (N : Nat) : Env := ⟨Try.prog, N, [], [(0, ⟨[], [], [0], [], none⟩), (1, ⟨[], [], [0], [], none⟩), (3, ⟨[], [], [0, 3], [], none⟩), (4, ⟨[], [], [0, 3, 5], [], none⟩), (6, ⟨[], [], [0, 3, 7], [], none⟩), (8, ⟨[], [], [0, 3, 9], [], none⟩), (10, ⟨[], [], [0, 3, 11], [], none⟩), (12, ⟨[], [], [0, 13], [], none⟩)], kdL [], []⟩
def gogeom_Layout_Stride_g (N : Nat) (v1 : Int) : Option (Int) :=
  (bif (v1 == 0) then (some 0) else (bif (v1 == 1) then (some 2) else (bif (v1 == 2) then (some 3) else (bif (v1 == 3) then (some 3) else (bif (v1 == 4) then (some 4) else (some v1))))))
def gogeom_Layout_Stride (N : Nat) (v1 : Int) : Option (Int) :=
  gogeom_Layout_Stride_g N v1
set_option maxRecDepth 100000
theorem gogeom_Layout_Stride_t (N : Nat) (v1 : Int) : evF (gogeom_Layout_Stride_E N) [] Try.f14 [.k (.int .i64)] [(.int .i64)] (v1, ()) = gogeom_Layout_Stride N v1 := by
  exact (show evF (gogeom_Layout_Stride_E N) [] Try.f14 [.k (.int .i64)] [(.int .i64)] (v1, ()) = gogeom_Layout_Stride_g N v1 from by kernel_rfl).trans (by rfl)
noncomputable def gogeom_Layout_Stride_con (N : Nat) : Con := ⟨14, [.k (.int .i64)], [(.int .i64)], fun x => gogeom_Layout_Stride N x.1⟩
theorem gogeom_Layout_Stride_s (N : Nat) : (gogeom_Layout_Stride_con N).Sound Try.prog :=
  Con.sound_of (c := gogeom_Layout_Stride_con N) (E := (gogeom_Layout_Stride_E N)) (idle := []) Try.func14 (by kernel_rfl) (by kernel_rfl) ⟨allNil, allNil⟩ allNil (fun x y h => (gogeom_Layout_Stride_t N x.1).trans h)
/-- (*pub-orthodrome/pub/gogeom.Bounds).Overlaps -/
noncomputable def gogeom_Bounds_Overlaps_E (N : Nat) : Env := ⟨Try.prog, N, [gogeom_Layout_Stride_con N], [(0, ⟨[], [], [0, 1, 2], [], none⟩), (1, ⟨[], [], [0, 1, 2], [], none⟩), (2, ⟨[], [], [0, 2, 7, 8], [], none⟩), (3, ⟨[], [], [0, 2, 7, 8], [], none⟩), (4, ⟨[], [], [0, 2, 7, 8], [], none⟩), (5, ⟨[], [], [0, 2, 7, 8, 47], [], none⟩), (6, ⟨[], [], [], [], none⟩)], kdL [], []⟩
def gogeom_Bounds_Overlaps_g0 (N : Nat) (v1 : (Int × ((List Nat) × ((List Nat) × Unit)))) (v3 : (Int × ((List Nat) × ((List Nat) × Unit)))) (v4 : Int) (r0 : Int → Option ((Bool × Unit))) (v9 : Int) : Option ((Bool × Unit)) :=
  (bif (decide ((v9 : Int) < v4)) then ((nth v1.2.1 v9).bind fun v10 => (nth v3.2.2.1 v9).bind fun v11 => bif (fgt v10 v11) then (some (false, ())) else ((nth v1.2.2.1 v9).bind fun v12 => (nth v3.2.1 v9).bind fun v13 => (bif (flt v12 v13) then (some (false, ())) else ((r0 (IntKind.i64.wrap (v9 + 1))))))) else (some (true, ())))
def gogeom_Bounds_Overlaps_l0 (N : Nat) : Nat → (Int × ((List Nat) × ((List Nat) × Unit))) → (Int × ((List Nat) × ((List Nat) × Unit))) → Int → Int → Option ((Bool × Unit))
  | 0, _, _, _, _ => none
  | n + 1, v1, v3, v4, v9 => gogeom_Bounds_Overlaps_g0 N v1 v3 v4 (gogeom_Bounds_Overlaps_l0 N n v1 v3 v4) v9
def gogeom_Bounds_Overlaps_g (N : Nat) (v1 : (Int × ((List Nat) × ((List Nat) × Unit)))) (v2 : Int) (v3 : (Int × ((List Nat) × ((List Nat) × Unit)))) (c0 : (Int × ((List Nat) × ((List Nat) × Unit))) → (Int × ((List Nat) × ((List Nat) × Unit))) → Int → Int → Option ((Bool × Unit))) : Option ((Bool × Unit)) :=
  ((gogeom_Layout_Stride N v2).bind fun v4 => ((c0 v1 v3 v4 0)))
def gogeom_Bounds_Overlaps (N : Nat) (v1 : (Int × ((List Nat) × ((List Nat) × Unit)))) (v2 : Int) (v3 : (Int × ((List Nat) × ((List Nat) × Unit)))) : Option ((Bool × Unit)) :=
  gogeom_Bounds_Overlaps_g N v1 v2 v3 (gogeom_Bounds_Overlaps_l0 N N)
set_option maxRecDepth 100000
noncomputable def gogeom_Bounds_Overlaps_e0 (N : Nat) (n : Nat) (v1 : (Int × ((List Nat) × ((List Nat) × Unit)))) (v3 : (Int × ((List Nat) × ((List Nat) × Unit)))) (v4 : Int) (v9 : Int) : Option (AltD [⟨[.k .bool], [none, none, none]⟩]) :=
  loopN (advOf (gogeom_Bounds_Overlaps_E N) (codeAt (bodyOf Try.f11) [1, 0, 1, 0, 0])) (evC (gogeom_Bounds_Overlaps_E N) (codeAt (bodyOf Try.f11) [1, 0, 1, 0, 0])) n ⟨[(0, .eref (.pair (.int .i64) (.pair (.list .float) (.pair (.list .float) .unit))) v1), (2, .eref (.pair (.int .i64) (.pair (.list .float) (.pair (.list .float) .unit))) v3), (7, .pv (.int .i64) v9), (8, .pv (.int .i64) v4)], [], []⟩ (kBlock 0 (kSeq (advOf (gogeom_Bounds_Overlaps_E N) (codeAt (bodyOf Try.f11) [1, 1])) (evC (gogeom_Bounds_Overlaps_E N) (codeAt (bodyOf Try.f11) [1, 1])) (kEnd2 (gogeom_Bounds_Overlaps_E N) [] Try.f11.results.toList [⟨[.k .bool], [none, none, none]⟩] [.dead, .dead, .dead])))
theorem gogeom_Bounds_Overlaps_t0 (N : Nat) : ∀ (n : Nat) (v1 : (Int × ((List Nat) × ((List Nat) × Unit)))) (v3 : (Int × ((List Nat) × ((List Nat) × Unit)))) (v4 : Int) (v9 : Int), gogeom_Bounds_Overlaps_e0 N n v1 v3 v4 v9 = gogeom_Bounds_Overlaps_l0 N n v1 v3 v4 v9
  | 0, _, _, _, _ => rfl
  | n + 1, v1, v3, v4, v9 => by
    have h : gogeom_Bounds_Overlaps_e0 N n v1 v3 v4 = gogeom_Bounds_Overlaps_l0 N n v1 v3 v4 := by funext v9; exact gogeom_Bounds_Overlaps_t0 N n v1 v3 v4 v9
    exact (show gogeom_Bounds_Overlaps_e0 N (n + 1) v1 v3 v4 v9 = gogeom_Bounds_Overlaps_g0 N v1 v3 v4 (gogeom_Bounds_Overlaps_e0 N n v1 v3 v4) v9 from by kernel_rfl).trans (by rw [h]; rfl)
theorem gogeom_Bounds_Overlaps_t (N : Nat) (v1 : (Int × ((List Nat) × ((List Nat) × Unit)))) (v2 : Int) (v3 : (Int × ((List Nat) × ((List Nat) × Unit)))) : evF2 (gogeom_Bounds_Overlaps_E N) [] Try.f11 [.lref (.pair (.int .i64) (.pair (.list .float) (.pair (.list .float) .unit))), .k (.int .i64), .lref (.pair (.int .i64) (.pair (.list .float) (.pair (.list .float) .unit)))] [⟨[.k .bool], [none, none, none]⟩] (v1, v2, v3, ()) = gogeom_Bounds_Overlaps N v1 v2 v3 := by
  have h0 : (gogeom_Bounds_Overlaps_e0 N N) = (gogeom_Bounds_Overlaps_l0 N N) := by funext v1 v3 v4 v9; exact gogeom_Bounds_Overlaps_t0 N N v1 v3 v4 v9
  exact (show evF2 (gogeom_Bounds_Overlaps_E N) [] Try.f11 [.lref (.pair (.int .i64) (.pair (.list .float) (.pair (.list .float) .unit))), .k (.int .i64), .lref (.pair (.int .i64) (.pair (.list .float) (.pair (.list .float) .unit)))] [⟨[.k .bool], [none, none, none]⟩] (v1, v2, v3, ()) = gogeom_Bounds_Overlaps_g N v1 v2 v3 (gogeom_Bounds_Overlaps_e0 N N) from by kernel_rfl).trans (by rw [h0]; rfl)
noncomputable def gogeom_Bounds_Overlaps_con (N : Nat) : Con2 := ⟨11, [.lref (.pair (.int .i64) (.pair (.list .float) (.pair (.list .float) .unit))), .k (.int .i64), .lref (.pair (.int .i64) (.pair (.list .float) (.pair (.list .float) .unit)))], [⟨[.k .bool], [none, none, none]⟩], fun x => gogeom_Bounds_Overlaps N x.1 x.2.1 x.2.2.1⟩
theorem gogeom_Bounds_Overlaps_s (N : Nat) : (gogeom_Bounds_Overlaps_con N).Sound Try.prog :=
  Con2.sound_of (c := gogeom_Bounds_Overlaps_con N) (E := (gogeom_Bounds_Overlaps_E N)) (idle := []) Try.func11 (by kernel_rfl) (by kernel_rfl) ⟨(allCons (gogeom_Layout_Stride_s N) allNil), allNil⟩ allNil (fun x y h => (gogeom_Bounds_Overlaps_t N x.1 x.2.1 x.2.2.1).trans h)
/-- pub-orthodrome/impl.BoxOverlaps -/
noncomputable def impl_BoxOverlaps_E (N : Nat) : Env := ⟨Try.prog, N, [], [(0, ⟨[], [], [0, 1, 2], [], none⟩), (1, ⟨[], [], [0, 4, 5, 6, 7], [4, 5, 6, 7], none⟩), (2, ⟨[], [], [0, 4, 5, 6, 7], [4, 5, 6, 7], none⟩)], kdL [], [impl_box_con N, gogeom_Bounds_Overlaps_con N]⟩
def impl_BoxOverlaps_g (N : Nat) (v1 : Int) (v2 : (Int × ((List Nat) × ((List Nat) × Unit)))) (v3 : (Int × ((List Nat) × ((List Nat) × Unit)))) : Option (Bool × Bool) :=
  ((impl_box N (v2.1, v2.2.1, v2.2.2.1, ())).bind fun v4 => (impl_box N (v3.1, v3.2.1, v3.2.2.1, ())).bind fun v5 => (gogeom_Bounds_Overlaps N (v4.1.1, v4.1.2.1, v4.1.2.2.1, ()) v1 (v5.1.1, v5.1.2.1, v5.1.2.2.1, ())).bind fun v6 => (some (v6.1, true)))
def impl_BoxOverlaps (N : Nat) (v1 : Int) (v2 : (Int × ((List Nat) × ((List Nat) × Unit)))) (v3 : (Int × ((List Nat) × ((List Nat) × Unit)))) : Option (Bool × Bool) :=
  impl_BoxOverlaps_g N v1 v2 v3
set_option maxRecDepth 100000
theorem impl_BoxOverlaps_t (N : Nat) (v1 : Int) (v2 : (Int × ((List Nat) × ((List Nat) × Unit)))) (v3 : (Int × ((List Nat) × ((List Nat) × Unit)))) : evF (impl_BoxOverlaps_E N) [9] Try.f7 [.k (.int .i64), .k (.pair (.int .i64) (.pair (.list .float) (.pair (.list .float) .unit))), .k (.pair (.int .i64) (.pair (.list .float) (.pair (.list .float) .unit)))] [.bool, .bool] (v1, v2, v3, ()) = impl_BoxOverlaps N v1 v2 v3 := by
  exact (show evF (impl_BoxOverlaps_E N) [9] Try.f7 [.k (.int .i64), .k (.pair (.int .i64) (.pair (.list .float) (.pair (.list .float) .unit))), .k (.pair (.int .i64) (.pair (.list .float) (.pair (.list .float) .unit)))] [.bool, .bool] (v1, v2, v3, ()) = impl_BoxOverlaps_g N v1 v2 v3 from by kernel_rfl).trans (by rfl)
noncomputable def impl_BoxOverlaps_con (N : Nat) : Con := ⟨7, [.k (.int .i64), .k (.pair (.int .i64) (.pair (.list .float) (.pair (.list .float) .unit))), .k (.pair (.int .i64) (.pair (.list .float) (.pair (.list .float) .unit)))], [.bool, .bool], fun x => impl_BoxOverlaps N x.1 x.2.1 x.2.2.1⟩
theorem impl_BoxOverlaps_s (N : Nat) : (impl_BoxOverlaps_con N).Sound Try.prog :=
  Con.sound_of (c := impl_BoxOverlaps_con N) (E := (impl_BoxOverlaps_E N)) (idle := [9]) Try.func7 (by kernel_rfl) (by kernel_rfl) ⟨allNil, (allCons (impl_box_s N) (allCons (gogeom_Bounds_Overlaps_s N) allNil))⟩ (allCons (idle_of Try.func9 (by kernel_rfl)) allNil) (fun x y h => (impl_BoxOverlaps_t N x.1 x.2.1 x.2.2.1).trans h)
/-- pub-orthodrome/laws.FnBoxOverlapsTurn -/
noncomputable def laws_FnBoxOverlapsTurn_E (N : Nat) : Env := ⟨Try.prog, N, [laws_zzFits1_con N, laws_bBox_con N, spec_Stride_con N, impl_BoxOverlaps_con N], [(0, ⟨[], [], [0, 1, 2], [], none⟩), (1, ⟨[], [], [0, 4, 5], [4, 5], none⟩), (2, ⟨[], [], [0, 4, 5, 18], [4, 5], none⟩), (3, ⟨[], [], [0, 4, 5], [4, 5], none⟩), (4, ⟨[], [], [0, 4, 5, 39], [4, 5], some N⟩), (5, ⟨[], [], [0, 4, 5], [4, 5], none⟩), (6, ⟨[], [], [0, 4, 5, 7, 8], [4, 5], none⟩), (7, ⟨[], [], [7, 8, 9, 10], [], none⟩)], kdL [(24, (.pair (.int .i64) (.pair (.list .float) (.pair (.list .float) .unit))))], []⟩
def laws_FnBoxOverlapsTurn_g0 (N : Nat) (v1 : Int) (v2 : (Int × ((List Nat) × ((List Nat) × Unit)))) (v3 : (Int × ((List Nat) × ((List Nat) × Unit)))) : Option (Bool) :=
  (some true)
def laws_FnBoxOverlapsTurn_j0 (N : Nat) (v1 : Int) (v2 : (Int × ((List Nat) × ((List Nat) × Unit)))) (v3 : (Int × ((List Nat) × ((List Nat) × Unit)))) : Option (Bool) :=
  gate N (laws_FnBoxOverlapsTurn_g0 N v1 v2 v3)
def laws_FnBoxOverlapsTurn_g (N : Nat) (v1 : Int) (v2 : (Int × ((List Nat) × ((List Nat) × Unit)))) (v3 : (Int × ((List Nat) × ((List Nat) × Unit)))) (c0 : Int → (Int × ((List Nat) × ((List Nat) × Unit))) → (Int × ((List Nat) × ((List Nat) × Unit))) → Option (Bool)) : Option (Bool) :=
  ((laws_zzFits1 N (v2.1, v2.2.1, v2.2.2.1, ())).bind fun v4 => bif (!v4) then (some true) else ((laws_zzFits1 N (v3.1, v3.2.1, v3.2.2.1, ())).bind fun v5 => (bif (!v5) then (some true) else ((laws_bBox N ([(v2.1, v2.2.1, v2.2.2.1, ()), (v3.1, v3.2.1, v3.2.2.1, ())] : List (Int × ((List Nat) × ((List Nat) × Unit))))).bind fun v6 => bif (!v6) then (c0 v1 v2 v3) else (bif (decide ((v1 : Int) < 1)) then (c0 v1 v2 v3) else ((spec_Stride N v1).bind fun v7 => (gate N (bif (decide ((v7 : Int) > (imm false (v2.2.1.length : Int) (v3.2.1.length : Int)))) then (some true) else ((impl_BoxOverlaps N v1 (v2.1, v2.2.1, v2.2.2.1, ()) (v3.1, v3.2.1, v3.2.2.1, ())).bind fun v8 => ((impl_BoxOverlaps N v1 (v3.1, v3.2.1, v3.2.2.1, ()) (v2.1, v2.2.1, v2.2.2.1, ())).bind fun v9 => (bif v8.2 then (bif v9.2 then (some (v8.1 == v9.1)) else (some false)) else (some false))))))))))))
def laws_FnBoxOverlapsTurn (N : Nat) (v1 : Int) (v2 : (Int × ((List Nat) × ((List Nat) × Unit)))) (v3 : (Int × ((List Nat) × ((List Nat) × Unit)))) : Option (Bool) :=
  laws_FnBoxOverlapsTurn_g N v1 v2 v3 (laws_FnBoxOverlapsTurn_j0 N)
set_option maxRecDepth 100000
noncomputable def laws_FnBoxOverlapsTurn_e0 (N : Nat) (v1 : Int) (v2 : (Int × ((List Nat) × ((List Nat) × Unit)))) (v3 : (Int × ((List Nat) × ((List Nat) × Unit)))) : Option (HR [.bool]) :=
  gate N (evC (laws_FnBoxOverlapsTurn_E N) (codeAt (bodyOf Try.f3) [1, 1, 0, 1]) ⟨[(0, .pv (.int .i64) v1), (4, .ref 4 0), (5, .ref 5 0), (39, .pv .bool true)], [(4, .box [.pv (.int .i64) v2.1, .pv (.list .float) v2.2.1, .pv (.list .float) v2.2.2.1]), (5, .box [.pv (.int .i64) v3.1, .pv (.list .float) v3.2.1, .pv (.list .float) v3.2.2.1])], []⟩ (kSeq (advOf (laws_FnBoxOverlapsTurn_E N) (codeAt (bodyOf Try.f3) [1, 1, 1])) (evC (laws_FnBoxOverlapsTurn_E N) (codeAt (bodyOf Try.f3) [1, 1, 1])) (kEnd (laws_FnBoxOverlapsTurn_E N) [] Try.f3.results.toList [.bool])))
theorem laws_FnBoxOverlapsTurn_t0 (N : Nat) (v1 : Int) (v2 : (Int × ((List Nat) × ((List Nat) × Unit)))) (v3 : (Int × ((List Nat) × ((List Nat) × Unit)))) : laws_FnBoxOverlapsTurn_e0 N v1 v2 v3 = laws_FnBoxOverlapsTurn_j0 N v1 v2 v3 := by
  exact (congrArg (gate N) (show evC (laws_FnBoxOverlapsTurn_E N) (codeAt (bodyOf Try.f3) [1, 1, 0, 1]) ⟨[(0, .pv (.int .i64) v1), (4, .ref 4 0), (5, .ref 5 0), (39, .pv .bool true)], [(4, .box [.pv (.int .i64) v2.1, .pv (.list .float) v2.2.1, .pv (.list .float) v2.2.2.1]), (5, .box [.pv (.int .i64) v3.1, .pv (.list .float) v3.2.1, .pv (.list .float) v3.2.2.1])], []⟩ (kSeq (advOf (laws_FnBoxOverlapsTurn_E N) (codeAt (bodyOf Try.f3) [1, 1, 1])) (evC (laws_FnBoxOverlapsTurn_E N) (codeAt (bodyOf Try.f3) [1, 1, 1])) (kEnd (laws_FnBoxOverlapsTurn_E N) [] Try.f3.results.toList [.bool])) = laws_FnBoxOverlapsTurn_g0 N v1 v2 v3 from by kernel_rfl)).trans (by rfl)
theorem laws_FnBoxOverlapsTurn_t (N : Nat) (v1 : Int) (v2 : (Int × ((List Nat) × ((List Nat) × Unit)))) (v3 : (Int × ((List Nat) × ((List Nat) × Unit)))) : evF (laws_FnBoxOverlapsTurn_E N) [] Try.f3 [.k (.int .i64), .k (.pair (.int .i64) (.pair (.list .float) (.pair (.list .float) .unit))), .k (.pair (.int .i64) (.pair (.list .float) (.pair (.list .float) .unit)))] [.bool] (v1, v2, v3, ()) = laws_FnBoxOverlapsTurn N v1 v2 v3 := by
  have h0 : (laws_FnBoxOverlapsTurn_e0 N) = (laws_FnBoxOverlapsTurn_j0 N) := by funext v1 v2 v3; exact laws_FnBoxOverlapsTurn_t0 N v1 v2 v3
  exact (show evF (laws_FnBoxOverlapsTurn_E N) [] Try.f3 [.k (.int .i64), .k (.pair (.int .i64) (.pair (.list .float) (.pair (.list .float) .unit))), .k (.pair (.int .i64) (.pair (.list .float) (.pair (.list .float) .unit)))] [.bool] (v1, v2, v3, ()) = laws_FnBoxOverlapsTurn_g N v1 v2 v3 (laws_FnBoxOverlapsTurn_e0 N) from by kernel_rfl).trans (by rw [h0]; rfl)
noncomputable def laws_FnBoxOverlapsTurn_con (N : Nat) : Con := ⟨3, [.k (.int .i64), .k (.pair (.int .i64) (.pair (.list .float) (.pair (.list .float) .unit))), .k (.pair (.int .i64) (.pair (.list .float) (.pair (.list .float) .unit)))], [.bool], fun x => laws_FnBoxOverlapsTurn N x.1 x.2.1 x.2.2.1⟩
theorem laws_FnBoxOverlapsTurn_s (N : Nat) : (laws_FnBoxOverlapsTurn_con N).Sound Try.prog :=
  Con.sound_of (c := laws_FnBoxOverlapsTurn_con N) (E := (laws_FnBoxOverlapsTurn_E N)) (idle := []) Try.func3 (by kernel_rfl) (by kernel_rfl) ⟨(allCons (laws_zzFits1_s N) (allCons (laws_bBox_s N) (allCons (spec_Stride_s N) (allCons (impl_BoxOverlaps_s N) allNil)))), allNil⟩ allNil (fun x y h => (laws_FnBoxOverlapsTurn_t N x.1 x.2.1 x.2.2.1).trans h)
end Go.Proofs.Ytcppjdjimmnlkab.FBox
