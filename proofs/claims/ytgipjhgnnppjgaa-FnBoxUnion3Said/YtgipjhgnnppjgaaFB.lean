import Derived.Test.YtgipjhgnnppjgaaProg
import Derived.Test.YtgipjhgnnppjgaaAv16
import Derived.Test.YtgipjhgnnppjgaaAv19
import Derived.Test.YtgipjhgnnppjgaaAv20
import Derived.Test.YtgipjhgnnppjgaaAv21
import Derived.Test.YtgipjhgnnppjgaaAv25
import Derived.KernelRfl
set_option linter.unusedVariables false
namespace Go.Proofs.Ytgipjhgnnppjgaa.FB
open Go Go.Av
/-- math.archTrunc -/
def math_archTrunc (N : Nat) (v1 : Nat) : Option Nat := fwhole .zero v1
noncomputable def math_archTrunc_con (N : Nat) : Con := ⟨116, [.k .float], [.float], fun x => math_archTrunc N x.1⟩
theorem math_archTrunc_s (N : Nat) : (math_archTrunc_con N).Sound Try.prog := whole_of (name := "math.archTrunc") Try.func116 (by kernel_rfl) (by kernel_rfl) (by kernel_rfl) (by kernel_rfl)
/-- math.Trunc -/
noncomputable def math_Trunc_E (N : Nat) : Env := ⟨Try.prog, N, [math_archTrunc_con N], [(0, ⟨[], [], [0], [], none⟩), (1, ⟨[], [], [0], [], none⟩), (2, ⟨[], [], [0], [], none⟩)], kdL [], []⟩
def math_Trunc_g (N : Nat) (v1 : Nat) : Option (Nat) :=
  ((math_archTrunc N v1).bind fun v2 => (some v2))
def math_Trunc (N : Nat) (v1 : Nat) : Option (Nat) :=
  math_Trunc_g N v1
set_option maxRecDepth 100000
theorem math_Trunc_t (N : Nat) (v1 : Nat) : evF (math_Trunc_E N) [] Try.f69 [.k .float] [.float] (v1, ()) = math_Trunc N v1 := by
  exact (show evF (math_Trunc_E N) [] Try.f69 [.k .float] [.float] (v1, ()) = math_Trunc_g N v1 from by kernel_rfl).trans (by rfl)
noncomputable def math_Trunc_con (N : Nat) : Con := ⟨69, [.k .float], [.float], fun x => math_Trunc N x.1⟩
theorem math_Trunc_s (N : Nat) : (math_Trunc_con N).Sound Try.prog :=
  Con.sound_of (c := math_Trunc_con N) (E := (math_Trunc_E N)) (idle := []) Try.func69 (by kernel_rfl) (by kernel_rfl) ⟨(allCons (math_archTrunc_s N) allNil), allNil⟩ allNil (fun x y h => (math_Trunc_t N x.1).trans h)
/-- pub-orthodrome/spec.Grid -/
noncomputable def spec_Grid_E (N : Nat) : Env := ⟨Try.prog, N, [math_Trunc_con N], [(0, ⟨[], [], [0, 1, 2], [], none⟩), (1, ⟨[], [], [0, 1, 2], [], none⟩), (2, ⟨[], [], [1, 2, 11, 12, 13], [], none⟩), (3, ⟨[], [], [1, 2, 11, 12, 13], [], none⟩), (4, ⟨[], [], [1, 2, 8, 11, 12, 13], [], none⟩), (5, ⟨[], [], [1, 2, 8, 11, 12, 13, 20], [], none⟩), (6, ⟨[], [], [1, 2, 8, 11, 12, 13], [], none⟩), (7, ⟨[], [], [1, 2, 11, 12, 13, 21, 22, 23], [], none⟩), (8, ⟨[], [], [1, 2, 11, 12, 13, 21, 22, 23], [], none⟩), (9, ⟨[], [], [1, 2, 10, 11, 12, 13, 21, 22, 23], [], none⟩), (10, ⟨[], [], [1, 2, 11, 12, 13, 21, 22, 23, 42], [], some N⟩), (11, ⟨[], [], [1, 2, 11, 12, 13, 21, 22, 23], [], none⟩), (12, ⟨[], [], [1, 2, 11, 12, 13], [], none⟩), (13, ⟨[], [], [1], [], none⟩)], kdL [], []⟩
def spec_Grid_g2 (N : Nat) (v2 : Int) (v3 : Nat) (v1 : (List (List Nat))) (v10 : Int) (v11 : (List Nat)) (v14 : Int) (r1 : Int → Option (Bool)) (r0 : Int → Option (Bool)) : Option (Bool) :=
  (some false)
def spec_Grid_j2 (N : Nat) (r1 : Int → Option (Bool)) (r0 : Int → Option (Bool)) (v2 : Int) (v3 : Nat) (v1 : (List (List Nat))) (v10 : Int) (v11 : (List Nat)) (v14 : Int) : Option (Bool) :=
  gate N (spec_Grid_g2 N v2 v3 v1 v10 v11 v14 r1 r0)
def spec_Grid_g1 (N : Nat) (v2 : Int) (v3 : Nat) (v1 : (List (List Nat))) (v10 : Int) (v11 : (List Nat)) (c2 : Int → Option (Bool)) (r1 : Int → Option (Bool)) (r0 : Int → Option (Bool)) (v14 : Int) : Option (Bool) :=
  (bif (decide ((v14 : Int) < (v11.length : Int))) then ((nth v11 v14).bind fun v15 => (bif (fge v15 (fneg v3)) then (bif (!(fle v15 v3)) then (c2 v14) else ((math_Trunc N v15).bind fun v16 => (gate N (bif (fne v15 v16) then (some false) else ((r1 (IntKind.i64.wrap (v14 + 1)))))))) else (c2 v14))) else ((r0 (IntKind.i64.wrap (v10 + 1)))))
def spec_Grid_l1 (N : Nat) (r0 : Int → Option (Bool)) (v2 : Int) (v3 : Nat) (v1 : (List (List Nat))) : Nat → Int → (List Nat) → Int → Option (Bool)
  | 0, _, _, _ => none
  | n + 1, v10, v11, v14 => spec_Grid_g1 N v2 v3 v1 v10 v11 (spec_Grid_j2 N (spec_Grid_l1 N r0 v2 v3 v1 n v10 v11) r0 v2 v3 v1 v10 v11) (spec_Grid_l1 N r0 v2 v3 v1 n v10 v11) r0 v14
def spec_Grid_g0 (N : Nat) (v2 : Int) (v3 : Nat) (v1 : (List (List Nat))) (c1 : Int → (List Nat) → Int → Option (Bool)) (r0 : Int → Option (Bool)) (v10 : Int) : Option (Bool) :=
  (bif (decide ((v10 : Int) < (v1.length : Int))) then ((nth v1 v10).bind fun v11 => (bif ((v11.length : Int) != v2) then (some false) else ((c1 v10 v11 0)))) else (some (decide ((v2 : Int) > 0))))
def spec_Grid_l0 (N : Nat) : Nat → Int → Nat → (List (List Nat)) → Int → Option (Bool)
  | 0, _, _, _, _ => none
  | n + 1, v2, v3, v1, v10 => spec_Grid_g0 N v2 v3 v1 (spec_Grid_l1 N (spec_Grid_l0 N n v2 v3 v1) v2 v3 v1 N) (spec_Grid_l0 N n v2 v3 v1) v10
def spec_Grid_g (N : Nat) (v1 : (List (List Nat))) (v2 : Int) (v3 : Nat) (c0 : Int → Nat → (List (List Nat)) → Int → Option (Bool)) : Option (Bool) :=
  ((c0 v2 v3 v1 0))
def spec_Grid (N : Nat) (v1 : (List (List Nat))) (v2 : Int) (v3 : Nat) : Option (Bool) :=
  spec_Grid_g N v1 v2 v3 (spec_Grid_l0 N N)
set_option maxRecDepth 100000
noncomputable def spec_Grid_e2 (N : Nat) (m1 : Nat) (m0 : Nat) (v2 : Int) (v3 : Nat) (v1 : (List (List Nat))) (v10 : Int) (v11 : (List Nat)) (v14 : Int) : Option (HR [.bool]) :=
  gate N (evC (spec_Grid_E N) (codeAt (bodyOf Try.f95) [1, 0, 1, 0, 0, 1, 1, 0, 0, 1, 1, 1, 0, 0, 1, 1, 0, 0, 1, 1]) ⟨[(1, .pv (.int .i64) v2), (2, .pv .float v3), (11, .pv (.list (.list .float)) v1), (12, .pv (.int .i64) (v1.length : Int)), (13, .pv (.int .i64) v10), (21, .pv (.list .float) v11), (22, .pv (.int .i64) (v11.length : Int)), (23, .pv (.int .i64) v14), (42, .pv .bool true)], [], []⟩ (kBlock 3 (kSeq (advOf (spec_Grid_E N) (codeAt (bodyOf Try.f95) [1, 0, 1, 0, 0, 1, 1, 0, 0, 1, 1, 1, 0, 0, 1, 1, 1])) (evC (spec_Grid_E N) (codeAt (bodyOf Try.f95) [1, 0, 1, 0, 0, 1, 1, 0, 0, 1, 1, 1, 0, 0, 1, 1, 1])) (kSeq (advOf (spec_Grid_E N) (codeAt (bodyOf Try.f95) [1, 0, 1, 0, 0, 1, 1, 0, 0, 1, 1, 1, 0, 0])) (fun st K => loopN (advOf (spec_Grid_E N) (codeAt (bodyOf Try.f95) [1, 0, 1, 0, 0, 1, 1, 0, 0, 1, 1, 1, 0, 0])) (evC (spec_Grid_E N) (codeAt (bodyOf Try.f95) [1, 0, 1, 0, 0, 1, 1, 0, 0, 1, 1, 1, 0, 0])) m1 st K) (kBlock 2 (kBlock 1 (kSeq (advOf (spec_Grid_E N) (codeAt (bodyOf Try.f95) [1, 0, 1, 0, 0, 1, 1, 1])) (evC (spec_Grid_E N) (codeAt (bodyOf Try.f95) [1, 0, 1, 0, 0, 1, 1, 1])) (kSeq (advOf (spec_Grid_E N) (codeAt (bodyOf Try.f95) [1, 0, 1, 0, 0])) (fun st K => loopN (advOf (spec_Grid_E N) (codeAt (bodyOf Try.f95) [1, 0, 1, 0, 0])) (evC (spec_Grid_E N) (codeAt (bodyOf Try.f95) [1, 0, 1, 0, 0])) m0 st K) (kBlock 0 (kSeq (advOf (spec_Grid_E N) (codeAt (bodyOf Try.f95) [1, 1])) (evC (spec_Grid_E N) (codeAt (bodyOf Try.f95) [1, 1])) (kEnd (spec_Grid_E N) [] Try.f95.results.toList [.bool])))))))))))
noncomputable def spec_Grid_e1 (N : Nat) (m0 : Nat) (v2 : Int) (v3 : Nat) (v1 : (List (List Nat))) (n : Nat) (v10 : Int) (v11 : (List Nat)) (v14 : Int) : Option (HR [.bool]) :=
  loopN (advOf (spec_Grid_E N) (codeAt (bodyOf Try.f95) [1, 0, 1, 0, 0, 1, 1, 0, 0, 1, 1, 1, 0, 0])) (evC (spec_Grid_E N) (codeAt (bodyOf Try.f95) [1, 0, 1, 0, 0, 1, 1, 0, 0, 1, 1, 1, 0, 0])) n ⟨[(1, .pv (.int .i64) v2), (2, .pv .float v3), (11, .pv (.list (.list .float)) v1), (12, .pv (.int .i64) (v1.length : Int)), (13, .pv (.int .i64) v10), (21, .pv (.list .float) v11), (22, .pv (.int .i64) (v11.length : Int)), (23, .pv (.int .i64) v14)], [], []⟩ (kBlock 2 (kBlock 1 (kSeq (advOf (spec_Grid_E N) (codeAt (bodyOf Try.f95) [1, 0, 1, 0, 0, 1, 1, 1])) (evC (spec_Grid_E N) (codeAt (bodyOf Try.f95) [1, 0, 1, 0, 0, 1, 1, 1])) (kSeq (advOf (spec_Grid_E N) (codeAt (bodyOf Try.f95) [1, 0, 1, 0, 0])) (fun st K => loopN (advOf (spec_Grid_E N) (codeAt (bodyOf Try.f95) [1, 0, 1, 0, 0])) (evC (spec_Grid_E N) (codeAt (bodyOf Try.f95) [1, 0, 1, 0, 0])) m0 st K) (kBlock 0 (kSeq (advOf (spec_Grid_E N) (codeAt (bodyOf Try.f95) [1, 1])) (evC (spec_Grid_E N) (codeAt (bodyOf Try.f95) [1, 1])) (kEnd (spec_Grid_E N) [] Try.f95.results.toList [.bool])))))))
noncomputable def spec_Grid_e0 (N : Nat) (n : Nat) (v2 : Int) (v3 : Nat) (v1 : (List (List Nat))) (v10 : Int) : Option (HR [.bool]) :=
  loopN (advOf (spec_Grid_E N) (codeAt (bodyOf Try.f95) [1, 0, 1, 0, 0])) (evC (spec_Grid_E N) (codeAt (bodyOf Try.f95) [1, 0, 1, 0, 0])) n ⟨[(1, .pv (.int .i64) v2), (2, .pv .float v3), (11, .pv (.list (.list .float)) v1), (12, .pv (.int .i64) (v1.length : Int)), (13, .pv (.int .i64) v10)], [], []⟩ (kBlock 0 (kSeq (advOf (spec_Grid_E N) (codeAt (bodyOf Try.f95) [1, 1])) (evC (spec_Grid_E N) (codeAt (bodyOf Try.f95) [1, 1])) (kEnd (spec_Grid_E N) [] Try.f95.results.toList [.bool])))
theorem spec_Grid_t2 (N : Nat) (m1 : Nat) (m0 : Nat) (v2 : Int) (v3 : Nat) (v1 : (List (List Nat))) (v10 : Int) (v11 : (List Nat)) (v14 : Int) : spec_Grid_e2 N m1 m0 v2 v3 v1 v10 v11 v14 = spec_Grid_j2 N (spec_Grid_e1 N m0 v2 v3 v1 m1 v10 v11) (spec_Grid_e0 N m0 v2 v3 v1) v2 v3 v1 v10 v11 v14 := by
  exact (congrArg (gate N) (show evC (spec_Grid_E N) (codeAt (bodyOf Try.f95) [1, 0, 1, 0, 0, 1, 1, 0, 0, 1, 1, 1, 0, 0, 1, 1, 0, 0, 1, 1]) ⟨[(1, .pv (.int .i64) v2), (2, .pv .float v3), (11, .pv (.list (.list .float)) v1), (12, .pv (.int .i64) (v1.length : Int)), (13, .pv (.int .i64) v10), (21, .pv (.list .float) v11), (22, .pv (.int .i64) (v11.length : Int)), (23, .pv (.int .i64) v14), (42, .pv .bool true)], [], []⟩ (kBlock 3 (kSeq (advOf (spec_Grid_E N) (codeAt (bodyOf Try.f95) [1, 0, 1, 0, 0, 1, 1, 0, 0, 1, 1, 1, 0, 0, 1, 1, 1])) (evC (spec_Grid_E N) (codeAt (bodyOf Try.f95) [1, 0, 1, 0, 0, 1, 1, 0, 0, 1, 1, 1, 0, 0, 1, 1, 1])) (kSeq (advOf (spec_Grid_E N) (codeAt (bodyOf Try.f95) [1, 0, 1, 0, 0, 1, 1, 0, 0, 1, 1, 1, 0, 0])) (fun st K => loopN (advOf (spec_Grid_E N) (codeAt (bodyOf Try.f95) [1, 0, 1, 0, 0, 1, 1, 0, 0, 1, 1, 1, 0, 0])) (evC (spec_Grid_E N) (codeAt (bodyOf Try.f95) [1, 0, 1, 0, 0, 1, 1, 0, 0, 1, 1, 1, 0, 0])) m1 st K) (kBlock 2 (kBlock 1 (kSeq (advOf (spec_Grid_E N) (codeAt (bodyOf Try.f95) [1, 0, 1, 0, 0, 1, 1, 1])) (evC (spec_Grid_E N) (codeAt (bodyOf Try.f95) [1, 0, 1, 0, 0, 1, 1, 1])) (kSeq (advOf (spec_Grid_E N) (codeAt (bodyOf Try.f95) [1, 0, 1, 0, 0])) (fun st K => loopN (advOf (spec_Grid_E N) (codeAt (bodyOf Try.f95) [1, 0, 1, 0, 0])) (evC (spec_Grid_E N) (codeAt (bodyOf Try.f95) [1, 0, 1, 0, 0])) m0 st K) (kBlock 0 (kSeq (advOf (spec_Grid_E N) (codeAt (bodyOf Try.f95) [1, 1])) (evC (spec_Grid_E N) (codeAt (bodyOf Try.f95) [1, 1])) (kEnd (spec_Grid_E N) [] Try.f95.results.toList [.bool])))))))))) = spec_Grid_g2 N v2 v3 v1 v10 v11 v14 (spec_Grid_e1 N m0 v2 v3 v1 m1 v10 v11) (spec_Grid_e0 N m0 v2 v3 v1) from by kernel_rfl)).trans (by rfl)
theorem spec_Grid_t1 (N : Nat) (m0 : Nat) (v2 : Int) (v3 : Nat) (v1 : (List (List Nat))) : ∀ (n : Nat) (v10 : Int) (v11 : (List Nat)) (v14 : Int), spec_Grid_e1 N m0 v2 v3 v1 n v10 v11 v14 = spec_Grid_l1 N (spec_Grid_e0 N m0 v2 v3 v1) v2 v3 v1 n v10 v11 v14
  | 0, _, _, _ => rfl
  | n + 1, v10, v11, v14 => by
    have h2 : (spec_Grid_e2 N n m0 v2 v3 v1 v10 v11) = (spec_Grid_j2 N (spec_Grid_e1 N m0 v2 v3 v1 n v10 v11) (spec_Grid_e0 N m0 v2 v3 v1) v2 v3 v1 v10 v11) := by funext v14; exact spec_Grid_t2 N n m0 v2 v3 v1 v10 v11 v14
    have h : spec_Grid_e1 N m0 v2 v3 v1 n v10 v11 = spec_Grid_l1 N (spec_Grid_e0 N m0 v2 v3 v1) v2 v3 v1 n v10 v11 := by funext v14; exact spec_Grid_t1 N m0 v2 v3 v1 n v10 v11 v14
    exact (show spec_Grid_e1 N m0 v2 v3 v1 (n + 1) v10 v11 v14 = spec_Grid_g1 N v2 v3 v1 v10 v11 (spec_Grid_e2 N n m0 v2 v3 v1 v10 v11) (spec_Grid_e1 N m0 v2 v3 v1 n v10 v11) (spec_Grid_e0 N m0 v2 v3 v1) v14 from by kernel_rfl).trans (by rw [h2, h]; rfl)
theorem spec_Grid_t0 (N : Nat) : ∀ (n : Nat) (v2 : Int) (v3 : Nat) (v1 : (List (List Nat))) (v10 : Int), spec_Grid_e0 N n v2 v3 v1 v10 = spec_Grid_l0 N n v2 v3 v1 v10
  | 0, _, _, _, _ => rfl
  | n + 1, v2, v3, v1, v10 => by
    have h1 : (spec_Grid_e1 N n v2 v3 v1 N) = (spec_Grid_l1 N (spec_Grid_e0 N n v2 v3 v1) v2 v3 v1 N) := by funext v10 v11 v14; exact spec_Grid_t1 N n v2 v3 v1 N v10 v11 v14
    have h : spec_Grid_e0 N n v2 v3 v1 = spec_Grid_l0 N n v2 v3 v1 := by funext v10; exact spec_Grid_t0 N n v2 v3 v1 v10
    exact (show spec_Grid_e0 N (n + 1) v2 v3 v1 v10 = spec_Grid_g0 N v2 v3 v1 (spec_Grid_e1 N n v2 v3 v1 N) (spec_Grid_e0 N n v2 v3 v1) v10 from by kernel_rfl).trans (by rw [h1, h]; rfl)
theorem spec_Grid_t (N : Nat) (v1 : (List (List Nat))) (v2 : Int) (v3 : Nat) : evF (spec_Grid_E N) [] Try.f95 [.k (.list (.list .float)), .k (.int .i64), .k .float] [.bool] (v1, v2, v3, ()) = spec_Grid N v1 v2 v3 := by
  have h0 : (spec_Grid_e0 N N) = (spec_Grid_l0 N N) := by funext v2 v3 v1 v10; exact spec_Grid_t0 N N v2 v3 v1 v10
  exact (show evF (spec_Grid_E N) [] Try.f95 [.k (.list (.list .float)), .k (.int .i64), .k .float] [.bool] (v1, v2, v3, ()) = spec_Grid_g N v1 v2 v3 (spec_Grid_e0 N N) from by kernel_rfl).trans (by rw [h0]; rfl)
noncomputable def spec_Grid_con (N : Nat) : Con := ⟨95, [.k (.list (.list .float)), .k (.int .i64), .k .float], [.bool], fun x => spec_Grid N x.1 x.2.1 x.2.2.1⟩
theorem spec_Grid_s (N : Nat) : (spec_Grid_con N).Sound Try.prog :=
  Con.sound_of (c := spec_Grid_con N) (E := (spec_Grid_E N)) (idle := []) Try.func95 (by kernel_rfl) (by kernel_rfl) ⟨(allCons (math_Trunc_s N) allNil), allNil⟩ allNil (fun x y h => (spec_Grid_t N x.1 x.2.1 x.2.2.1).trans h)
/-- pub-orthodrome/laws.off2 -/
noncomputable def laws_off2_E (N : Nat) : Env := ⟨Try.prog, N, [], [(0, ⟨[], [], [0], [], none⟩), (1, ⟨[], [], [1], [1], none⟩)], kdL [(22, .float)], []⟩
def laws_off2_g (N : Nat) (v1 : (Nat × (Nat × Unit))) : Option (((List Nat) × Unit)) :=
  (some (([v1.1, v1.2.1] : List Nat), ()))
def laws_off2 (N : Nat) (v1 : (Nat × (Nat × Unit))) : Option (((List Nat) × Unit)) :=
  laws_off2_g N v1
set_option maxRecDepth 100000
theorem laws_off2_t (N : Nat) (v1 : (Nat × (Nat × Unit))) : evF2 (laws_off2_E N) [] Try.f96 [.k (.pair .float (.pair .float .unit))] [⟨[.row 22 .float], [none]⟩] (v1, ()) = laws_off2 N v1 := by
  exact (show evF2 (laws_off2_E N) [] Try.f96 [.k (.pair .float (.pair .float .unit))] [⟨[.row 22 .float], [none]⟩] (v1, ()) = laws_off2_g N v1 from by kernel_rfl).trans (by rfl)
noncomputable def laws_off2_con (N : Nat) : Con2 := ⟨96, [.k (.pair .float (.pair .float .unit))], [⟨[.row 22 .float], [none]⟩], fun x => laws_off2 N x.1⟩
theorem laws_off2_s (N : Nat) : (laws_off2_con N).Sound Try.prog :=
  Con2.sound_of (c := laws_off2_con N) (E := (laws_off2_E N)) (idle := []) Try.func96 (by kernel_rfl) (by kernel_rfl) ⟨allNil, allNil⟩ allNil (fun x y h => (laws_off2_t N x.1).trans h)
/-- pub-orthodrome/laws.whole2 -/
noncomputable def laws_whole2_E (N : Nat) : Env := ⟨Try.prog, N, [spec_Grid_con N], [(0, ⟨[], [], [0], [], none⟩), (1, ⟨[], [], [0], [], none⟩), (2, ⟨[], [], [5, 6, 7], [], none⟩), (3, ⟨[], [], [5, 6, 7], [], none⟩), (4, ⟨[], [], [4, 5, 6, 7], [4], none⟩), (5, ⟨[], [], [5, 6, 7, 15], [], none⟩), (6, ⟨[], [], [5, 6, 7], [], none⟩), (7, ⟨[], [], [], [], none⟩)], kdL [(38, (.list .float))], [laws_off2_con N]⟩
def laws_whole2_g0 (N : Nat) (v1 : (List (Nat × (Nat × Unit)))) (r0 : Int → Option (Bool)) (v5 : Int) : Option (Bool) :=
  (bif (decide ((v5 : Int) < (v1.length : Int))) then ((nth v1 v5).bind fun v6 => ((laws_off2 N (v6.1, v6.2.1, ())).bind fun v7 => (spec_Grid N ([v7.1] : List (List Nat)) 2 4697254411347427328).bind fun v8 => (bif (!v8) then (some false) else ((r0 (IntKind.i64.wrap (v5 + 1))))))) else (some true))
def laws_whole2_l0 (N : Nat) : Nat → (List (Nat × (Nat × Unit))) → Int → Option (Bool)
  | 0, _, _ => none
  | n + 1, v1, v5 => laws_whole2_g0 N v1 (laws_whole2_l0 N n v1) v5
def laws_whole2_g (N : Nat) (v1 : (List (Nat × (Nat × Unit)))) (c0 : (List (Nat × (Nat × Unit))) → Int → Option (Bool)) : Option (Bool) :=
  ((c0 v1 0))
def laws_whole2 (N : Nat) (v1 : (List (Nat × (Nat × Unit)))) : Option (Bool) :=
  laws_whole2_g N v1 (laws_whole2_l0 N N)
set_option maxRecDepth 100000
noncomputable def laws_whole2_e0 (N : Nat) (n : Nat) (v1 : (List (Nat × (Nat × Unit)))) (v5 : Int) : Option (HR [.bool]) :=
  loopN (advOf (laws_whole2_E N) (codeAt (bodyOf Try.f43) [1, 0, 1, 0, 0])) (evC (laws_whole2_E N) (codeAt (bodyOf Try.f43) [1, 0, 1, 0, 0])) n ⟨[(5, .pv (.list (.pair .float (.pair .float .unit))) v1), (6, .pv (.int .i64) (v1.length : Int)), (7, .pv (.int .i64) v5)], [], []⟩ (kBlock 0 (kSeq (advOf (laws_whole2_E N) (codeAt (bodyOf Try.f43) [1, 1])) (evC (laws_whole2_E N) (codeAt (bodyOf Try.f43) [1, 1])) (kEnd (laws_whole2_E N) [] Try.f43.results.toList [.bool])))
theorem laws_whole2_t0 (N : Nat) : ∀ (n : Nat) (v1 : (List (Nat × (Nat × Unit)))) (v5 : Int), laws_whole2_e0 N n v1 v5 = laws_whole2_l0 N n v1 v5
  | 0, _, _ => rfl
  | n + 1, v1, v5 => by
    have h : laws_whole2_e0 N n v1 = laws_whole2_l0 N n v1 := by funext v5; exact laws_whole2_t0 N n v1 v5
    exact (show laws_whole2_e0 N (n + 1) v1 v5 = laws_whole2_g0 N v1 (laws_whole2_e0 N n v1) v5 from by kernel_rfl).trans (by rw [h]; rfl)
theorem laws_whole2_t (N : Nat) (v1 : (List (Nat × (Nat × Unit)))) : evF (laws_whole2_E N) [] Try.f43 [.k (.list (.pair .float (.pair .float .unit)))] [.bool] (v1, ()) = laws_whole2 N v1 := by
  have h0 : (laws_whole2_e0 N N) = (laws_whole2_l0 N N) := by funext v1 v5; exact laws_whole2_t0 N N v1 v5
  exact (show evF (laws_whole2_E N) [] Try.f43 [.k (.list (.pair .float (.pair .float .unit)))] [.bool] (v1, ()) = laws_whole2_g N v1 (laws_whole2_e0 N N) from by kernel_rfl).trans (by rw [h0]; rfl)
noncomputable def laws_whole2_con (N : Nat) : Con := ⟨43, [.k (.list (.pair .float (.pair .float .unit)))], [.bool], fun x => laws_whole2 N x.1⟩
theorem laws_whole2_s (N : Nat) : (laws_whole2_con N).Sound Try.prog :=
  Con.sound_of (c := laws_whole2_con N) (E := (laws_whole2_E N)) (idle := []) Try.func43 (by kernel_rfl) (by kernel_rfl) ⟨(allCons (spec_Grid_s N) allNil), (allCons (laws_off2_s N) allNil)⟩ allNil (fun x y h => (laws_whole2_t N x.1).trans h)
/-- pub-orthodrome/laws.box2 -/
noncomputable def laws_box2_E (N : Nat) : Env := ⟨Try.prog, N, [], [(0, ⟨[], [], [0, 1], [], none⟩), (1, ⟨[], [], [2, 3, 4], [2, 3, 4], none⟩)], kdL [], []⟩
def laws_box2_g (N : Nat) (v1 : (Nat × (Nat × Unit))) (v2 : (Nat × (Nat × Unit))) : Option (((Nat × (Nat × Unit)) × ((Nat × (Nat × Unit)) × Unit))) :=
  (some ((v1.1, v1.2.1, ()), (v2.1, v2.2.1, ()), ()))
def laws_box2 (N : Nat) (v1 : (Nat × (Nat × Unit))) (v2 : (Nat × (Nat × Unit))) : Option (((Nat × (Nat × Unit)) × ((Nat × (Nat × Unit)) × Unit))) :=
  laws_box2_g N v1 v2
set_option maxRecDepth 100000
theorem laws_box2_t (N : Nat) (v1 : (Nat × (Nat × Unit))) (v2 : (Nat × (Nat × Unit))) : evF (laws_box2_E N) [] Try.f44 [.k (.pair .float (.pair .float .unit)), .k (.pair .float (.pair .float .unit))] [(.pair (.pair .float (.pair .float .unit)) (.pair (.pair .float (.pair .float .unit)) .unit))] (v1, v2, ()) = laws_box2 N v1 v2 := by
  exact (show evF (laws_box2_E N) [] Try.f44 [.k (.pair .float (.pair .float .unit)), .k (.pair .float (.pair .float .unit))] [(.pair (.pair .float (.pair .float .unit)) (.pair (.pair .float (.pair .float .unit)) .unit))] (v1, v2, ()) = laws_box2_g N v1 v2 from by kernel_rfl).trans (by rfl)
noncomputable def laws_box2_con (N : Nat) : Con := ⟨44, [.k (.pair .float (.pair .float .unit)), .k (.pair .float (.pair .float .unit))], [(.pair (.pair .float (.pair .float .unit)) (.pair (.pair .float (.pair .float .unit)) .unit))], fun x => laws_box2 N x.1 x.2.1⟩
theorem laws_box2_s (N : Nat) : (laws_box2_con N).Sound Try.prog :=
  Con.sound_of (c := laws_box2_con N) (E := (laws_box2_E N)) (idle := []) Try.func44 (by kernel_rfl) (by kernel_rfl) ⟨allNil, allNil⟩ allNil (fun x y h => (laws_box2_t N x.1 x.2.1).trans h)
/-- pub-orthodrome/impl.vec2 -/
noncomputable def impl_vec2_E (N : Nat) : Env := ⟨Try.prog, N, [], [(0, ⟨[], [], [0], [], none⟩), (1, ⟨[], [], [1, 2], [1, 2], none⟩)], kdL [], []⟩
def impl_vec2_g (N : Nat) (v1 : (Nat × (Nat × Unit))) : Option ((Nat × (Nat × Unit))) :=
  (some (v1.1, v1.2.1, ()))
def impl_vec2 (N : Nat) (v1 : (Nat × (Nat × Unit))) : Option ((Nat × (Nat × Unit))) :=
  impl_vec2_g N v1
set_option maxRecDepth 100000
theorem impl_vec2_t (N : Nat) (v1 : (Nat × (Nat × Unit))) : evF (impl_vec2_E N) [] Try.f97 [.k (.pair .float (.pair .float .unit))] [(.pair .float (.pair .float .unit))] (v1, ()) = impl_vec2 N v1 := by
  exact (show evF (impl_vec2_E N) [] Try.f97 [.k (.pair .float (.pair .float .unit))] [(.pair .float (.pair .float .unit))] (v1, ()) = impl_vec2_g N v1 from by kernel_rfl).trans (by rfl)
noncomputable def impl_vec2_con (N : Nat) : Con := ⟨97, [.k (.pair .float (.pair .float .unit))], [(.pair .float (.pair .float .unit))], fun x => impl_vec2 N x.1⟩
theorem impl_vec2_s (N : Nat) : (impl_vec2_con N).Sound Try.prog :=
  Con.sound_of (c := impl_vec2_con N) (E := (impl_vec2_E N)) (idle := []) Try.func97 (by kernel_rfl) (by kernel_rfl) ⟨allNil, allNil⟩ allNil (fun x y h => (impl_vec2_t N x.1).trans h)
/-- (pub-orthodrome/pub/gonum/spatial/r2.Box).Empty -/
noncomputable def r2_Box_Empty_E (N : Nat) : Env := ⟨Try.prog, N, [], [(0, ⟨[], [], [0], [], none⟩), (1, ⟨[], [], [1], [1], none⟩)], kdL [], []⟩
def r2_Box_Empty_g (N : Nat) (v1 : ((Nat × (Nat × Unit)) × ((Nat × (Nat × Unit)) × Unit))) : Option (Bool) :=
  (bif (fge v1.1.1 v1.2.1.1) then (some true) else (some (fge v1.1.2.1 v1.2.1.2.1)))
def r2_Box_Empty (N : Nat) (v1 : ((Nat × (Nat × Unit)) × ((Nat × (Nat × Unit)) × Unit))) : Option (Bool) :=
  r2_Box_Empty_g N v1
set_option maxRecDepth 100000
theorem r2_Box_Empty_t (N : Nat) (v1 : ((Nat × (Nat × Unit)) × ((Nat × (Nat × Unit)) × Unit))) : evF (r2_Box_Empty_E N) [] Try.f98 [.k (.pair (.pair .float (.pair .float .unit)) (.pair (.pair .float (.pair .float .unit)) .unit))] [.bool] (v1, ()) = r2_Box_Empty N v1 := by
  exact (show evF (r2_Box_Empty_E N) [] Try.f98 [.k (.pair (.pair .float (.pair .float .unit)) (.pair (.pair .float (.pair .float .unit)) .unit))] [.bool] (v1, ()) = r2_Box_Empty_g N v1 from by kernel_rfl).trans (by rfl)
noncomputable def r2_Box_Empty_con (N : Nat) : Con := ⟨98, [.k (.pair (.pair .float (.pair .float .unit)) (.pair (.pair .float (.pair .float .unit)) .unit))], [.bool], fun x => r2_Box_Empty N x.1⟩
theorem r2_Box_Empty_s (N : Nat) : (r2_Box_Empty_con N).Sound Try.prog :=
  Con.sound_of (c := r2_Box_Empty_con N) (E := (r2_Box_Empty_E N)) (idle := []) Try.func98 (by kernel_rfl) (by kernel_rfl) ⟨allNil, allNil⟩ allNil (fun x y h => (r2_Box_Empty_t N x.1).trans h)
/-- pub-orthodrome/impl.Empty2 -/
noncomputable def impl_Empty2_E (N : Nat) : Env := ⟨Try.prog, N, [impl_vec2_con N, r2_Box_Empty_con N], [(0, ⟨[], [], [0], [], none⟩), (1, ⟨[], [], [1], [1], none⟩)], kdL [], []⟩
def impl_Empty2_g (N : Nat) (v1 : ((Nat × (Nat × Unit)) × ((Nat × (Nat × Unit)) × Unit))) : Option (Bool) :=
  ((impl_vec2 N (v1.1.1, v1.1.2.1, ())).bind fun v2 => (impl_vec2 N (v1.2.1.1, v1.2.1.2.1, ())).bind fun v3 => (r2_Box_Empty N ((v2.1, v2.2.1, ()), (v3.1, v3.2.1, ()), ())).bind fun v4 => (some v4))
def impl_Empty2 (N : Nat) (v1 : ((Nat × (Nat × Unit)) × ((Nat × (Nat × Unit)) × Unit))) : Option (Bool) :=
  impl_Empty2_g N v1
set_option maxRecDepth 100000
theorem impl_Empty2_t (N : Nat) (v1 : ((Nat × (Nat × Unit)) × ((Nat × (Nat × Unit)) × Unit))) : evF (impl_Empty2_E N) [] Try.f45 [.k (.pair (.pair .float (.pair .float .unit)) (.pair (.pair .float (.pair .float .unit)) .unit))] [.bool] (v1, ()) = impl_Empty2 N v1 := by
  exact (show evF (impl_Empty2_E N) [] Try.f45 [.k (.pair (.pair .float (.pair .float .unit)) (.pair (.pair .float (.pair .float .unit)) .unit))] [.bool] (v1, ()) = impl_Empty2_g N v1 from by kernel_rfl).trans (by rfl)
noncomputable def impl_Empty2_con (N : Nat) : Con := ⟨45, [.k (.pair (.pair .float (.pair .float .unit)) (.pair (.pair .float (.pair .float .unit)) .unit))], [.bool], fun x => impl_Empty2 N x.1⟩
theorem impl_Empty2_s (N : Nat) : (impl_Empty2_con N).Sound Try.prog :=
  Con.sound_of (c := impl_Empty2_con N) (E := (impl_Empty2_E N)) (idle := []) Try.func45 (by kernel_rfl) (by kernel_rfl) ⟨(allCons (impl_vec2_s N) (allCons (r2_Box_Empty_s N) allNil)), allNil⟩ allNil (fun x y h => (impl_Empty2_t N x.1).trans h)
/-- math.archMin -/
def math_archMin (N : Nat) (v1 : Nat) (v2 : Nat) : Option Nat := some (fpick true .lt v1 v2)
noncomputable def math_archMin_con (N : Nat) : Con := ⟨160, [.k .float, .k .float], [.float], fun x => math_archMin N x.1 x.2.1⟩
theorem math_archMin_s (N : Nat) : (math_archMin_con N).Sound Try.prog := pick_of (name := "math.archMin") Try.func160 (by kernel_rfl) (by kernel_rfl) (by kernel_rfl) (by kernel_rfl)
/-- math.Min -/
noncomputable def math_Min_E (N : Nat) : Env := ⟨Try.prog, N, [math_archMin_con N], [(0, ⟨[], [], [0, 1], [], none⟩), (1, ⟨[], [], [0, 1], [], none⟩), (2, ⟨[], [], [0, 1], [], none⟩)], kdL [], []⟩
def math_Min_g (N : Nat) (v1 : Nat) (v2 : Nat) : Option (Nat) :=
  ((math_archMin N v1 v2).bind fun v3 => (some v3))
def math_Min (N : Nat) (v1 : Nat) (v2 : Nat) : Option (Nat) :=
  math_Min_g N v1 v2
set_option maxRecDepth 100000
theorem math_Min_t (N : Nat) (v1 : Nat) (v2 : Nat) : evF (math_Min_E N) [] Try.f155 [.k .float, .k .float] [.float] (v1, v2, ()) = math_Min N v1 v2 := by
  exact (show evF (math_Min_E N) [] Try.f155 [.k .float, .k .float] [.float] (v1, v2, ()) = math_Min_g N v1 v2 from by kernel_rfl).trans (by rfl)
noncomputable def math_Min_con (N : Nat) : Con := ⟨155, [.k .float, .k .float], [.float], fun x => math_Min N x.1 x.2.1⟩
theorem math_Min_s (N : Nat) : (math_Min_con N).Sound Try.prog :=
  Con.sound_of (c := math_Min_con N) (E := (math_Min_E N)) (idle := []) Try.func155 (by kernel_rfl) (by kernel_rfl) ⟨(allCons (math_archMin_s N) allNil), allNil⟩ allNil (fun x y h => (math_Min_t N x.1 x.2.1).trans h)
/-- pub-orthodrome/pub/gonum/spatial/r2.minElem -/
noncomputable def r2_minElem_E (N : Nat) : Env := ⟨Try.prog, N, [math_Min_con N], [(0, ⟨[], [], [0, 1], [], none⟩), (1, ⟨[], [], [2, 3, 4], [2, 3, 4], none⟩)], kdL [], []⟩
def r2_minElem_g (N : Nat) (v1 : (Nat × (Nat × Unit))) (v2 : (Nat × (Nat × Unit))) : Option ((Nat × (Nat × Unit))) :=
  ((math_Min N v1.1 v2.1).bind fun v3 => (math_Min N v1.2.1 v2.2.1).bind fun v4 => (some (v3, v4, ())))
def r2_minElem (N : Nat) (v1 : (Nat × (Nat × Unit))) (v2 : (Nat × (Nat × Unit))) : Option ((Nat × (Nat × Unit))) :=
  r2_minElem_g N v1 v2
set_option maxRecDepth 100000
theorem r2_minElem_t (N : Nat) (v1 : (Nat × (Nat × Unit))) (v2 : (Nat × (Nat × Unit))) : evF (r2_minElem_E N) [] Try.f131 [.k (.pair .float (.pair .float .unit)), .k (.pair .float (.pair .float .unit))] [(.pair .float (.pair .float .unit))] (v1, v2, ()) = r2_minElem N v1 v2 := by
  exact (show evF (r2_minElem_E N) [] Try.f131 [.k (.pair .float (.pair .float .unit)), .k (.pair .float (.pair .float .unit))] [(.pair .float (.pair .float .unit))] (v1, v2, ()) = r2_minElem_g N v1 v2 from by kernel_rfl).trans (by rfl)
noncomputable def r2_minElem_con (N : Nat) : Con := ⟨131, [.k (.pair .float (.pair .float .unit)), .k (.pair .float (.pair .float .unit))], [(.pair .float (.pair .float .unit))], fun x => r2_minElem N x.1 x.2.1⟩
theorem r2_minElem_s (N : Nat) : (r2_minElem_con N).Sound Try.prog :=
  Con.sound_of (c := r2_minElem_con N) (E := (r2_minElem_E N)) (idle := []) Try.func131 (by kernel_rfl) (by kernel_rfl) ⟨(allCons (math_Min_s N) allNil), allNil⟩ allNil (fun x y h => (r2_minElem_t N x.1 x.2.1).trans h)
/-- math.archMax -/
def math_archMax (N : Nat) (v1 : Nat) (v2 : Nat) : Option Nat := some (fpick false .gt v1 v2)
noncomputable def math_archMax_con (N : Nat) : Con := ⟨162, [.k .float, .k .float], [.float], fun x => math_archMax N x.1 x.2.1⟩
theorem math_archMax_s (N : Nat) : (math_archMax_con N).Sound Try.prog := pick_of (name := "math.archMax") Try.func162 (by kernel_rfl) (by kernel_rfl) (by kernel_rfl) (by kernel_rfl)
/-- math.Max -/
noncomputable def math_Max_E (N : Nat) : Env := ⟨Try.prog, N, [math_archMax_con N], [(0, ⟨[], [], [0, 1], [], none⟩), (1, ⟨[], [], [0, 1], [], none⟩), (2, ⟨[], [], [0, 1], [], none⟩)], kdL [], []⟩
def math_Max_g (N : Nat) (v1 : Nat) (v2 : Nat) : Option (Nat) :=
  ((math_archMax N v1 v2).bind fun v3 => (some v3))
def math_Max (N : Nat) (v1 : Nat) (v2 : Nat) : Option (Nat) :=
  math_Max_g N v1 v2
set_option maxRecDepth 100000
theorem math_Max_t (N : Nat) (v1 : Nat) (v2 : Nat) : evF (math_Max_E N) [] Try.f156 [.k .float, .k .float] [.float] (v1, v2, ()) = math_Max N v1 v2 := by
  exact (show evF (math_Max_E N) [] Try.f156 [.k .float, .k .float] [.float] (v1, v2, ()) = math_Max_g N v1 v2 from by kernel_rfl).trans (by rfl)
noncomputable def math_Max_con (N : Nat) : Con := ⟨156, [.k .float, .k .float], [.float], fun x => math_Max N x.1 x.2.1⟩
theorem math_Max_s (N : Nat) : (math_Max_con N).Sound Try.prog :=
  Con.sound_of (c := math_Max_con N) (E := (math_Max_E N)) (idle := []) Try.func156 (by kernel_rfl) (by kernel_rfl) ⟨(allCons (math_archMax_s N) allNil), allNil⟩ allNil (fun x y h => (math_Max_t N x.1 x.2.1).trans h)
/-- pub-orthodrome/pub/gonum/spatial/r2.maxElem -/
noncomputable def r2_maxElem_E (N : Nat) : Env := ⟨Try.prog, N, [math_Max_con N], [(0, ⟨[], [], [0, 1], [], none⟩), (1, ⟨[], [], [2, 3, 4], [2, 3, 4], none⟩)], kdL [], []⟩
def r2_maxElem_g (N : Nat) (v1 : (Nat × (Nat × Unit))) (v2 : (Nat × (Nat × Unit))) : Option ((Nat × (Nat × Unit))) :=
  ((math_Max N v1.1 v2.1).bind fun v3 => (math_Max N v1.2.1 v2.2.1).bind fun v4 => (some (v3, v4, ())))
def r2_maxElem (N : Nat) (v1 : (Nat × (Nat × Unit))) (v2 : (Nat × (Nat × Unit))) : Option ((Nat × (Nat × Unit))) :=
  r2_maxElem_g N v1 v2
set_option maxRecDepth 100000
theorem r2_maxElem_t (N : Nat) (v1 : (Nat × (Nat × Unit))) (v2 : (Nat × (Nat × Unit))) : evF (r2_maxElem_E N) [] Try.f132 [.k (.pair .float (.pair .float .unit)), .k (.pair .float (.pair .float .unit))] [(.pair .float (.pair .float .unit))] (v1, v2, ()) = r2_maxElem N v1 v2 := by
  exact (show evF (r2_maxElem_E N) [] Try.f132 [.k (.pair .float (.pair .float .unit)), .k (.pair .float (.pair .float .unit))] [(.pair .float (.pair .float .unit))] (v1, v2, ()) = r2_maxElem_g N v1 v2 from by kernel_rfl).trans (by rfl)
noncomputable def r2_maxElem_con (N : Nat) : Con := ⟨132, [.k (.pair .float (.pair .float .unit)), .k (.pair .float (.pair .float .unit))], [(.pair .float (.pair .float .unit))], fun x => r2_maxElem N x.1 x.2.1⟩
theorem r2_maxElem_s (N : Nat) : (r2_maxElem_con N).Sound Try.prog :=
  Con.sound_of (c := r2_maxElem_con N) (E := (r2_maxElem_E N)) (idle := []) Try.func132 (by kernel_rfl) (by kernel_rfl) ⟨(allCons (math_Max_s N) allNil), allNil⟩ allNil (fun x y h => (r2_maxElem_t N x.1 x.2.1).trans h)
/-- (pub-orthodrome/pub/gonum/spatial/r2.Box).Union -/
noncomputable def r2_Box_Union_E (N : Nat) : Env := ⟨Try.prog, N, [r2_Box_Empty_con N, r2_minElem_con N, r2_maxElem_con N], [(0, ⟨[], [], [0, 1], [], none⟩), (1, ⟨[], [], [2, 3, 4], [2, 3, 4], none⟩), (2, ⟨[], [], [2, 3, 4, 6], [2, 3, 4], none⟩), (3, ⟨[], [], [2, 3, 4], [2, 3, 4], none⟩), (4, ⟨[], [], [2, 3, 4, 9], [2, 3, 4], none⟩), (5, ⟨[], [], [2, 3, 4], [2, 3, 4], none⟩)], kdL [], []⟩
def r2_Box_Union_g (N : Nat) (v1 : ((Nat × (Nat × Unit)) × ((Nat × (Nat × Unit)) × Unit))) (v2 : ((Nat × (Nat × Unit)) × ((Nat × (Nat × Unit)) × Unit))) : Option (((Nat × (Nat × Unit)) × ((Nat × (Nat × Unit)) × Unit))) :=
  ((r2_Box_Empty N ((v1.1.1, v1.1.2.1, ()), (v1.2.1.1, v1.2.1.2.1, ()), ())).bind fun v3 => (bif v3 then (some ((v2.1.1, v2.1.2.1, ()), (v2.2.1.1, v2.2.1.2.1, ()), ())) else ((r2_Box_Empty N ((v2.1.1, v2.1.2.1, ()), (v2.2.1.1, v2.2.1.2.1, ()), ())).bind fun v4 => (bif v4 then (some ((v1.1.1, v1.1.2.1, ()), (v1.2.1.1, v1.2.1.2.1, ()), ())) else ((r2_minElem N (v1.1.1, v1.1.2.1, ()) (v2.1.1, v2.1.2.1, ())).bind fun v5 => (r2_maxElem N (v1.2.1.1, v1.2.1.2.1, ()) (v2.2.1.1, v2.2.1.2.1, ())).bind fun v6 => (some ((v5.1, v5.2.1, ()), (v6.1, v6.2.1, ()), ())))))))
def r2_Box_Union (N : Nat) (v1 : ((Nat × (Nat × Unit)) × ((Nat × (Nat × Unit)) × Unit))) (v2 : ((Nat × (Nat × Unit)) × ((Nat × (Nat × Unit)) × Unit))) : Option (((Nat × (Nat × Unit)) × ((Nat × (Nat × Unit)) × Unit))) :=
  r2_Box_Union_g N v1 v2
set_option maxRecDepth 100000
theorem r2_Box_Union_t (N : Nat) (v1 : ((Nat × (Nat × Unit)) × ((Nat × (Nat × Unit)) × Unit))) (v2 : ((Nat × (Nat × Unit)) × ((Nat × (Nat × Unit)) × Unit))) : evF (r2_Box_Union_E N) [] Try.f100 [.k (.pair (.pair .float (.pair .float .unit)) (.pair (.pair .float (.pair .float .unit)) .unit)), .k (.pair (.pair .float (.pair .float .unit)) (.pair (.pair .float (.pair .float .unit)) .unit))] [(.pair (.pair .float (.pair .float .unit)) (.pair (.pair .float (.pair .float .unit)) .unit))] (v1, v2, ()) = r2_Box_Union N v1 v2 := by
  exact (show evF (r2_Box_Union_E N) [] Try.f100 [.k (.pair (.pair .float (.pair .float .unit)) (.pair (.pair .float (.pair .float .unit)) .unit)), .k (.pair (.pair .float (.pair .float .unit)) (.pair (.pair .float (.pair .float .unit)) .unit))] [(.pair (.pair .float (.pair .float .unit)) (.pair (.pair .float (.pair .float .unit)) .unit))] (v1, v2, ()) = r2_Box_Union_g N v1 v2 from by kernel_rfl).trans (by rfl)
noncomputable def r2_Box_Union_con (N : Nat) : Con := ⟨100, [.k (.pair (.pair .float (.pair .float .unit)) (.pair (.pair .float (.pair .float .unit)) .unit)), .k (.pair (.pair .float (.pair .float .unit)) (.pair (.pair .float (.pair .float .unit)) .unit))], [(.pair (.pair .float (.pair .float .unit)) (.pair (.pair .float (.pair .float .unit)) .unit))], fun x => r2_Box_Union N x.1 x.2.1⟩
theorem r2_Box_Union_s (N : Nat) : (r2_Box_Union_con N).Sound Try.prog :=
  Con.sound_of (c := r2_Box_Union_con N) (E := (r2_Box_Union_E N)) (idle := []) Try.func100 (by kernel_rfl) (by kernel_rfl) ⟨(allCons (r2_Box_Empty_s N) (allCons (r2_minElem_s N) (allCons (r2_maxElem_s N) allNil))), allNil⟩ allNil (fun x y h => (r2_Box_Union_t N x.1 x.2.1).trans h)
/-- pub-orthodrome/impl.plainP2 -/
noncomputable def impl_plainP2_E (N : Nat) : Env := ⟨Try.prog, N, [], [(0, ⟨[], [], [0], [], none⟩), (1, ⟨[], [], [1, 2], [1, 2], none⟩)], kdL [], []⟩
def impl_plainP2_g (N : Nat) (v1 : (Nat × (Nat × Unit))) : Option ((Nat × (Nat × Unit))) :=
  (some (v1.1, v1.2.1, ()))
def impl_plainP2 (N : Nat) (v1 : (Nat × (Nat × Unit))) : Option ((Nat × (Nat × Unit))) :=
  impl_plainP2_g N v1
set_option maxRecDepth 100000
theorem impl_plainP2_t (N : Nat) (v1 : (Nat × (Nat × Unit))) : evF (impl_plainP2_E N) [] Try.f130 [.k (.pair .float (.pair .float .unit))] [(.pair .float (.pair .float .unit))] (v1, ()) = impl_plainP2 N v1 := by
  exact (show evF (impl_plainP2_E N) [] Try.f130 [.k (.pair .float (.pair .float .unit))] [(.pair .float (.pair .float .unit))] (v1, ()) = impl_plainP2_g N v1 from by kernel_rfl).trans (by rfl)
noncomputable def impl_plainP2_con (N : Nat) : Con := ⟨130, [.k (.pair .float (.pair .float .unit))], [(.pair .float (.pair .float .unit))], fun x => impl_plainP2 N x.1⟩
theorem impl_plainP2_s (N : Nat) : (impl_plainP2_con N).Sound Try.prog :=
  Con.sound_of (c := impl_plainP2_con N) (E := (impl_plainP2_E N)) (idle := []) Try.func130 (by kernel_rfl) (by kernel_rfl) ⟨allNil, allNil⟩ allNil (fun x y h => (impl_plainP2_t N x.1).trans h)
/-- pub-orthodrome/impl.plainBox2 -/
noncomputable def impl_plainBox2_E (N : Nat) : Env := ⟨Try.prog, N, [impl_plainP2_con N], [(0, ⟨[], [], [0], [], none⟩), (1, ⟨[], [], [1, 2], [1, 2], none⟩)], kdL [], []⟩
def impl_plainBox2_g (N : Nat) (v1 : ((Nat × (Nat × Unit)) × ((Nat × (Nat × Unit)) × Unit))) : Option (((Nat × (Nat × Unit)) × ((Nat × (Nat × Unit)) × Unit))) :=
  ((impl_plainP2 N (v1.1.1, v1.1.2.1, ())).bind fun v2 => (impl_plainP2 N (v1.2.1.1, v1.2.1.2.1, ())).bind fun v3 => (some ((v2.1, v2.2.1, ()), (v3.1, v3.2.1, ()), ())))
def impl_plainBox2 (N : Nat) (v1 : ((Nat × (Nat × Unit)) × ((Nat × (Nat × Unit)) × Unit))) : Option (((Nat × (Nat × Unit)) × ((Nat × (Nat × Unit)) × Unit))) :=
  impl_plainBox2_g N v1
set_option maxRecDepth 100000
theorem impl_plainBox2_t (N : Nat) (v1 : ((Nat × (Nat × Unit)) × ((Nat × (Nat × Unit)) × Unit))) : evF (impl_plainBox2_E N) [] Try.f99 [.k (.pair (.pair .float (.pair .float .unit)) (.pair (.pair .float (.pair .float .unit)) .unit))] [(.pair (.pair .float (.pair .float .unit)) (.pair (.pair .float (.pair .float .unit)) .unit))] (v1, ()) = impl_plainBox2 N v1 := by
  exact (show evF (impl_plainBox2_E N) [] Try.f99 [.k (.pair (.pair .float (.pair .float .unit)) (.pair (.pair .float (.pair .float .unit)) .unit))] [(.pair (.pair .float (.pair .float .unit)) (.pair (.pair .float (.pair .float .unit)) .unit))] (v1, ()) = impl_plainBox2_g N v1 from by kernel_rfl).trans (by rfl)
noncomputable def impl_plainBox2_con (N : Nat) : Con := ⟨99, [.k (.pair (.pair .float (.pair .float .unit)) (.pair (.pair .float (.pair .float .unit)) .unit))], [(.pair (.pair .float (.pair .float .unit)) (.pair (.pair .float (.pair .float .unit)) .unit))], fun x => impl_plainBox2 N x.1⟩
theorem impl_plainBox2_s (N : Nat) : (impl_plainBox2_con N).Sound Try.prog :=
  Con.sound_of (c := impl_plainBox2_con N) (E := (impl_plainBox2_E N)) (idle := []) Try.func99 (by kernel_rfl) (by kernel_rfl) ⟨(allCons (impl_plainP2_s N) allNil), allNil⟩ allNil (fun x y h => (impl_plainBox2_t N x.1).trans h)
/-- pub-orthodrome/impl.Union2 -/
noncomputable def impl_Union2_E (N : Nat) : Env := ⟨Try.prog, N, [impl_vec2_con N, r2_Box_Union_con N, impl_plainBox2_con N], [(0, ⟨[], [], [0, 1], [], none⟩), (1, ⟨[], [], [2, 3, 4], [2, 3, 4], none⟩)], kdL [], []⟩
def impl_Union2_g (N : Nat) (v1 : ((Nat × (Nat × Unit)) × ((Nat × (Nat × Unit)) × Unit))) (v2 : ((Nat × (Nat × Unit)) × ((Nat × (Nat × Unit)) × Unit))) : Option (((Nat × (Nat × Unit)) × ((Nat × (Nat × Unit)) × Unit))) :=
  ((impl_vec2 N (v1.1.1, v1.1.2.1, ())).bind fun v3 => (impl_vec2 N (v1.2.1.1, v1.2.1.2.1, ())).bind fun v4 => (impl_vec2 N (v2.1.1, v2.1.2.1, ())).bind fun v5 => (impl_vec2 N (v2.2.1.1, v2.2.1.2.1, ())).bind fun v6 => (r2_Box_Union N ((v3.1, v3.2.1, ()), (v4.1, v4.2.1, ()), ()) ((v5.1, v5.2.1, ()), (v6.1, v6.2.1, ()), ())).bind fun v7 => (impl_plainBox2 N v7).bind fun v8 => (some ((v8.1.1, v8.1.2.1, ()), (v8.2.1.1, v8.2.1.2.1, ()), ())))
def impl_Union2 (N : Nat) (v1 : ((Nat × (Nat × Unit)) × ((Nat × (Nat × Unit)) × Unit))) (v2 : ((Nat × (Nat × Unit)) × ((Nat × (Nat × Unit)) × Unit))) : Option (((Nat × (Nat × Unit)) × ((Nat × (Nat × Unit)) × Unit))) :=
  impl_Union2_g N v1 v2
set_option maxRecDepth 100000
theorem impl_Union2_t (N : Nat) (v1 : ((Nat × (Nat × Unit)) × ((Nat × (Nat × Unit)) × Unit))) (v2 : ((Nat × (Nat × Unit)) × ((Nat × (Nat × Unit)) × Unit))) : evF (impl_Union2_E N) [] Try.f46 [.k (.pair (.pair .float (.pair .float .unit)) (.pair (.pair .float (.pair .float .unit)) .unit)), .k (.pair (.pair .float (.pair .float .unit)) (.pair (.pair .float (.pair .float .unit)) .unit))] [(.pair (.pair .float (.pair .float .unit)) (.pair (.pair .float (.pair .float .unit)) .unit))] (v1, v2, ()) = impl_Union2 N v1 v2 := by
  exact (show evF (impl_Union2_E N) [] Try.f46 [.k (.pair (.pair .float (.pair .float .unit)) (.pair (.pair .float (.pair .float .unit)) .unit)), .k (.pair (.pair .float (.pair .float .unit)) (.pair (.pair .float (.pair .float .unit)) .unit))] [(.pair (.pair .float (.pair .float .unit)) (.pair (.pair .float (.pair .float .unit)) .unit))] (v1, v2, ()) = impl_Union2_g N v1 v2 from by kernel_rfl).trans (by rfl)
noncomputable def impl_Union2_con (N : Nat) : Con := ⟨46, [.k (.pair (.pair .float (.pair .float .unit)) (.pair (.pair .float (.pair .float .unit)) .unit)), .k (.pair (.pair .float (.pair .float .unit)) (.pair (.pair .float (.pair .float .unit)) .unit))], [(.pair (.pair .float (.pair .float .unit)) (.pair (.pair .float (.pair .float .unit)) .unit))], fun x => impl_Union2 N x.1 x.2.1⟩
theorem impl_Union2_s (N : Nat) : (impl_Union2_con N).Sound Try.prog :=
  Con.sound_of (c := impl_Union2_con N) (E := (impl_Union2_E N)) (idle := []) Try.func46 (by kernel_rfl) (by kernel_rfl) ⟨(allCons (impl_vec2_s N) (allCons (r2_Box_Union_s N) (allCons (impl_plainBox2_s N) allNil))), allNil⟩ allNil (fun x y h => (impl_Union2_t N x.1 x.2.1).trans h)
/-- pub-orthodrome/laws.FnBoxUnion2 -/
noncomputable def laws_FnBoxUnion2_E (N : Nat) : Env := ⟨Try.prog, N, [laws_whole2_con N, laws_box2_con N, impl_Empty2_con N, impl_Union2_con N], [(0, ⟨[], [], [0, 1, 2, 3], [], none⟩), (1, ⟨[], [], [4, 5, 6, 7], [4, 5, 6, 7], none⟩), (2, ⟨[], [], [4, 5, 6, 7, 21], [4, 5, 6, 7], none⟩), (3, ⟨[], [], [4, 5, 6, 7], [4, 5, 6, 7], none⟩), (4, ⟨[], [], [4, 5, 6, 7, 9, 10], [4, 5, 6, 7, 9, 10], none⟩), (5, ⟨[], [], [4, 5, 6, 7, 9, 10, 11, 12], [4, 5, 6, 7, 9, 10], none⟩), (6, ⟨[], [], [4, 5, 6, 7, 9, 10, 11, 12, 13], [4, 5, 6, 7, 9, 10, 13], none⟩), (7, ⟨[], [], [4, 5, 6, 7, 9, 10, 11, 12, 13, 35], [4, 5, 6, 7, 9, 10, 13], none⟩), (9, ⟨[], [], [4, 5, 6, 7, 9, 10, 12, 13, 40], [4, 5, 6, 7, 9, 10, 13], none⟩), (11, ⟨[], [], [4, 5, 6, 7, 9, 10, 13, 45], [4, 5, 6, 7, 9, 10, 13], none⟩), (12, ⟨[], [], [4, 5, 6, 7, 9, 10, 13], [4, 5, 6, 7, 9, 10, 13], some N⟩), (13, ⟨[], [], [9, 10, 13, 14], [9, 10, 13, 14], none⟩)], kdL [(24, (.pair .float (.pair .float .unit)))], []⟩
def laws_FnBoxUnion2_g0 (N : Nat) (v1 : (Nat × (Nat × Unit))) (v2 : (Nat × (Nat × Unit))) (v3 : (Nat × (Nat × Unit))) (v4 : (Nat × (Nat × Unit))) (v6 : ((Nat × (Nat × Unit)) × ((Nat × (Nat × Unit)) × Unit))) (v7 : ((Nat × (Nat × Unit)) × ((Nat × (Nat × Unit)) × Unit))) (v10 : ((Nat × (Nat × Unit)) × ((Nat × (Nat × Unit)) × Unit))) : Option (Bool) :=
  (fmm false v1.1 v3.1).bind fun v11 => (fmm false v1.2.1 v3.2.1).bind fun v12 => (fmm true v2.1 v4.1).bind fun v13 => (fmm true v2.2.1 v4.2.1).bind fun v14 => (bif (((feq v10.1.1 v11) && ((feq v10.1.2.1 v12) && true)) && (((feq v10.2.1.1 v13) && ((feq v10.2.1.2.1 v14) && true)) && true)) then ((impl_Union2 N ((v7.1.1, v7.1.2.1, ()), (v7.2.1.1, v7.2.1.2.1, ()), ()) ((v6.1.1, v6.1.2.1, ()), (v6.2.1.1, v6.2.1.2.1, ()), ())).bind fun v15 => (some (((feq v15.1.1 v11) && ((feq v15.1.2.1 v12) && true)) && (((feq v15.2.1.1 v13) && ((feq v15.2.1.2.1 v14) && true)) && true)))) else (some false))
def laws_FnBoxUnion2_j0 (N : Nat) (v1 : (Nat × (Nat × Unit))) (v2 : (Nat × (Nat × Unit))) (v3 : (Nat × (Nat × Unit))) (v4 : (Nat × (Nat × Unit))) (v6 : ((Nat × (Nat × Unit)) × ((Nat × (Nat × Unit)) × Unit))) (v7 : ((Nat × (Nat × Unit)) × ((Nat × (Nat × Unit)) × Unit))) (v10 : ((Nat × (Nat × Unit)) × ((Nat × (Nat × Unit)) × Unit))) : Option (Bool) :=
  gate N (laws_FnBoxUnion2_g0 N v1 v2 v3 v4 v6 v7 v10)
def laws_FnBoxUnion2_g (N : Nat) (v1 : (Nat × (Nat × Unit))) (v2 : (Nat × (Nat × Unit))) (v3 : (Nat × (Nat × Unit))) (v4 : (Nat × (Nat × Unit))) (c0 : (Nat × (Nat × Unit)) → (Nat × (Nat × Unit)) → (Nat × (Nat × Unit)) → (Nat × (Nat × Unit)) → ((Nat × (Nat × Unit)) × ((Nat × (Nat × Unit)) × Unit)) → ((Nat × (Nat × Unit)) × ((Nat × (Nat × Unit)) × Unit)) → ((Nat × (Nat × Unit)) × ((Nat × (Nat × Unit)) × Unit)) → Option (Bool)) : Option (Bool) :=
  ((laws_whole2 N ([(v1.1, v1.2.1, ()), (v2.1, v2.2.1, ()), (v3.1, v3.2.1, ()), (v4.1, v4.2.1, ())] : List (Nat × (Nat × Unit)))).bind fun v5 => (bif (!v5) then (some true) else ((laws_box2 N (v1.1, v1.2.1, ()) (v2.1, v2.2.1, ())).bind fun v6 => (laws_box2 N (v3.1, v3.2.1, ()) (v4.1, v4.2.1, ())).bind fun v7 => ((impl_Empty2 N ((v6.1.1, v6.1.2.1, ()), (v6.2.1.1, v6.2.1.2.1, ()), ())).bind fun v8 => (impl_Empty2 N ((v7.1.1, v7.1.2.1, ()), (v7.2.1.1, v7.2.1.2.1, ()), ())).bind fun v9 => ((impl_Union2 N ((v6.1.1, v6.1.2.1, ()), (v6.2.1.1, v6.2.1.2.1, ()), ()) ((v7.1.1, v7.1.2.1, ()), (v7.2.1.1, v7.2.1.2.1, ()), ())).bind fun v10 => (bif v8 then (bif v9 then (some true) else (bif v8 then (some (((feq v10.1.1 v7.1.1) && ((feq v10.1.2.1 v7.1.2.1) && true)) && (((feq v10.2.1.1 v7.2.1.1) && ((feq v10.2.1.2.1 v7.2.1.2.1) && true)) && true))) else (bif v9 then (some (((feq v10.1.1 v6.1.1) && ((feq v10.1.2.1 v6.1.2.1) && true)) && (((feq v10.2.1.1 v6.2.1.1) && ((feq v10.2.1.2.1 v6.2.1.2.1) && true)) && true))) else (c0 v1 v2 v3 v4 v6 v7 v10)))) else (bif v8 then (some (((feq v10.1.1 v7.1.1) && ((feq v10.1.2.1 v7.1.2.1) && true)) && (((feq v10.2.1.1 v7.2.1.1) && ((feq v10.2.1.2.1 v7.2.1.2.1) && true)) && true))) else (bif v9 then (some (((feq v10.1.1 v6.1.1) && ((feq v10.1.2.1 v6.1.2.1) && true)) && (((feq v10.2.1.1 v6.2.1.1) && ((feq v10.2.1.2.1 v6.2.1.2.1) && true)) && true))) else (c0 v1 v2 v3 v4 v6 v7 v10)))))))))
def laws_FnBoxUnion2 (N : Nat) (v1 : (Nat × (Nat × Unit))) (v2 : (Nat × (Nat × Unit))) (v3 : (Nat × (Nat × Unit))) (v4 : (Nat × (Nat × Unit))) : Option (Bool) :=
  laws_FnBoxUnion2_g N v1 v2 v3 v4 (laws_FnBoxUnion2_j0 N)
set_option maxRecDepth 100000
noncomputable def laws_FnBoxUnion2_e0 (N : Nat) (v1 : (Nat × (Nat × Unit))) (v2 : (Nat × (Nat × Unit))) (v3 : (Nat × (Nat × Unit))) (v4 : (Nat × (Nat × Unit))) (v6 : ((Nat × (Nat × Unit)) × ((Nat × (Nat × Unit)) × Unit))) (v7 : ((Nat × (Nat × Unit)) × ((Nat × (Nat × Unit)) × Unit))) (v10 : ((Nat × (Nat × Unit)) × ((Nat × (Nat × Unit)) × Unit))) : Option (HR [.bool]) :=
  gate N (evC (laws_FnBoxUnion2_E N) (codeAt (bodyOf Try.f9) [1, 1, 1, 1, 1, 1]) ⟨[(4, .ref 4 0), (5, .ref 5 0), (6, .ref 6 0), (7, .ref 7 0), (9, .ref 9 0), (10, .ref 10 0), (13, .ref 13 0)], [(4, .box [.pv .float v1.1, .pv .float v1.2.1]), (5, .box [.pv .float v2.1, .pv .float v2.2.1]), (6, .box [.pv .float v3.1, .pv .float v3.2.1]), (7, .box [.pv .float v4.1, .pv .float v4.2.1]), (9, .box [.pv .float v6.1.1, .pv .float v6.1.2.1, .pv .float v6.2.1.1, .pv .float v6.2.1.2.1]), (10, .box [.pv .float v7.1.1, .pv .float v7.1.2.1, .pv .float v7.2.1.1, .pv .float v7.2.1.2.1]), (13, .box [.pv .float v10.1.1, .pv .float v10.1.2.1, .pv .float v10.2.1.1, .pv .float v10.2.1.2.1])], []⟩ (kEnd (laws_FnBoxUnion2_E N) [] Try.f9.results.toList [.bool]))
theorem laws_FnBoxUnion2_t0 (N : Nat) (v1 : (Nat × (Nat × Unit))) (v2 : (Nat × (Nat × Unit))) (v3 : (Nat × (Nat × Unit))) (v4 : (Nat × (Nat × Unit))) (v6 : ((Nat × (Nat × Unit)) × ((Nat × (Nat × Unit)) × Unit))) (v7 : ((Nat × (Nat × Unit)) × ((Nat × (Nat × Unit)) × Unit))) (v10 : ((Nat × (Nat × Unit)) × ((Nat × (Nat × Unit)) × Unit))) : laws_FnBoxUnion2_e0 N v1 v2 v3 v4 v6 v7 v10 = laws_FnBoxUnion2_j0 N v1 v2 v3 v4 v6 v7 v10 := by
  exact (congrArg (gate N) (show evC (laws_FnBoxUnion2_E N) (codeAt (bodyOf Try.f9) [1, 1, 1, 1, 1, 1]) ⟨[(4, .ref 4 0), (5, .ref 5 0), (6, .ref 6 0), (7, .ref 7 0), (9, .ref 9 0), (10, .ref 10 0), (13, .ref 13 0)], [(4, .box [.pv .float v1.1, .pv .float v1.2.1]), (5, .box [.pv .float v2.1, .pv .float v2.2.1]), (6, .box [.pv .float v3.1, .pv .float v3.2.1]), (7, .box [.pv .float v4.1, .pv .float v4.2.1]), (9, .box [.pv .float v6.1.1, .pv .float v6.1.2.1, .pv .float v6.2.1.1, .pv .float v6.2.1.2.1]), (10, .box [.pv .float v7.1.1, .pv .float v7.1.2.1, .pv .float v7.2.1.1, .pv .float v7.2.1.2.1]), (13, .box [.pv .float v10.1.1, .pv .float v10.1.2.1, .pv .float v10.2.1.1, .pv .float v10.2.1.2.1])], []⟩ (kEnd (laws_FnBoxUnion2_E N) [] Try.f9.results.toList [.bool]) = laws_FnBoxUnion2_g0 N v1 v2 v3 v4 v6 v7 v10 from by kernel_rfl)).trans (by rfl)
theorem laws_FnBoxUnion2_t (N : Nat) (v1 : (Nat × (Nat × Unit))) (v2 : (Nat × (Nat × Unit))) (v3 : (Nat × (Nat × Unit))) (v4 : (Nat × (Nat × Unit))) : evF (laws_FnBoxUnion2_E N) [] Try.f9 [.k (.pair .float (.pair .float .unit)), .k (.pair .float (.pair .float .unit)), .k (.pair .float (.pair .float .unit)), .k (.pair .float (.pair .float .unit))] [.bool] (v1, v2, v3, v4, ()) = laws_FnBoxUnion2 N v1 v2 v3 v4 := by
  have h0 : (laws_FnBoxUnion2_e0 N) = (laws_FnBoxUnion2_j0 N) := by funext v1 v2 v3 v4 v6 v7 v10; exact laws_FnBoxUnion2_t0 N v1 v2 v3 v4 v6 v7 v10
  exact (show evF (laws_FnBoxUnion2_E N) [] Try.f9 [.k (.pair .float (.pair .float .unit)), .k (.pair .float (.pair .float .unit)), .k (.pair .float (.pair .float .unit)), .k (.pair .float (.pair .float .unit))] [.bool] (v1, v2, v3, v4, ()) = laws_FnBoxUnion2_g N v1 v2 v3 v4 (laws_FnBoxUnion2_e0 N) from by kernel_rfl).trans (by rw [h0]; rfl)
noncomputable def laws_FnBoxUnion2_con (N : Nat) : Con := ⟨9, [.k (.pair .float (.pair .float .unit)), .k (.pair .float (.pair .float .unit)), .k (.pair .float (.pair .float .unit)), .k (.pair .float (.pair .float .unit))], [.bool], fun x => laws_FnBoxUnion2 N x.1 x.2.1 x.2.2.1 x.2.2.2.1⟩
theorem laws_FnBoxUnion2_s (N : Nat) : (laws_FnBoxUnion2_con N).Sound Try.prog :=
  Con.sound_of (c := laws_FnBoxUnion2_con N) (E := (laws_FnBoxUnion2_E N)) (idle := []) Try.func9 (by kernel_rfl) (by kernel_rfl) ⟨(allCons (laws_whole2_s N) (allCons (laws_box2_s N) (allCons (impl_Empty2_s N) (allCons (impl_Union2_s N) allNil)))), allNil⟩ allNil (fun x y h => (laws_FnBoxUnion2_t N x.1 x.2.1 x.2.2.1 x.2.2.2.1).trans h)
/-- pub-orthodrome/laws.off3 -/
noncomputable def laws_off3_E (N : Nat) : Env := ⟨Try.prog, N, [], [(0, ⟨[], [], [0], [], none⟩), (1, ⟨[], [], [1], [1], none⟩)], kdL [(22, .float)], []⟩
def laws_off3_g (N : Nat) (v1 : (Nat × (Nat × (Nat × Unit)))) : Option (((List Nat) × Unit)) :=
  (some (([v1.1, v1.2.1, v1.2.2.1] : List Nat), ()))
def laws_off3 (N : Nat) (v1 : (Nat × (Nat × (Nat × Unit)))) : Option (((List Nat) × Unit)) :=
  laws_off3_g N v1
set_option maxRecDepth 100000
theorem laws_off3_t (N : Nat) (v1 : (Nat × (Nat × (Nat × Unit)))) : evF2 (laws_off3_E N) [] Try.f101 [.k (.pair .float (.pair .float (.pair .float .unit)))] [⟨[.row 22 .float], [none]⟩] (v1, ()) = laws_off3 N v1 := by
  exact (show evF2 (laws_off3_E N) [] Try.f101 [.k (.pair .float (.pair .float (.pair .float .unit)))] [⟨[.row 22 .float], [none]⟩] (v1, ()) = laws_off3_g N v1 from by kernel_rfl).trans (by rfl)
noncomputable def laws_off3_con (N : Nat) : Con2 := ⟨101, [.k (.pair .float (.pair .float (.pair .float .unit)))], [⟨[.row 22 .float], [none]⟩], fun x => laws_off3 N x.1⟩
theorem laws_off3_s (N : Nat) : (laws_off3_con N).Sound Try.prog :=
  Con2.sound_of (c := laws_off3_con N) (E := (laws_off3_E N)) (idle := []) Try.func101 (by kernel_rfl) (by kernel_rfl) ⟨allNil, allNil⟩ allNil (fun x y h => (laws_off3_t N x.1).trans h)
/-- pub-orthodrome/laws.whole3 -/
noncomputable def laws_whole3_E (N : Nat) : Env := ⟨Try.prog, N, [spec_Grid_con N], [(0, ⟨[], [], [0], [], none⟩), (1, ⟨[], [], [0], [], none⟩), (2, ⟨[], [], [5, 6, 7], [], none⟩), (3, ⟨[], [], [5, 6, 7], [], none⟩), (4, ⟨[], [], [4, 5, 6, 7], [4], none⟩), (5, ⟨[], [], [5, 6, 7, 15], [], none⟩), (6, ⟨[], [], [5, 6, 7], [], none⟩), (7, ⟨[], [], [], [], none⟩)], kdL [(38, (.list .float))], [laws_off3_con N]⟩
def laws_whole3_g0 (N : Nat) (v1 : (List (Nat × (Nat × (Nat × Unit))))) (r0 : Int → Option (Bool)) (v5 : Int) : Option (Bool) :=
  (bif (decide ((v5 : Int) < (v1.length : Int))) then ((nth v1 v5).bind fun v6 => ((laws_off3 N (v6.1, v6.2.1, v6.2.2.1, ())).bind fun v7 => (spec_Grid N ([v7.1] : List (List Nat)) 3 4697254411347427328).bind fun v8 => (bif (!v8) then (some false) else ((r0 (IntKind.i64.wrap (v5 + 1))))))) else (some true))
def laws_whole3_l0 (N : Nat) : Nat → (List (Nat × (Nat × (Nat × Unit)))) → Int → Option (Bool)
  | 0, _, _ => none
  | n + 1, v1, v5 => laws_whole3_g0 N v1 (laws_whole3_l0 N n v1) v5
def laws_whole3_g (N : Nat) (v1 : (List (Nat × (Nat × (Nat × Unit))))) (c0 : (List (Nat × (Nat × (Nat × Unit)))) → Int → Option (Bool)) : Option (Bool) :=
  ((c0 v1 0))
def laws_whole3 (N : Nat) (v1 : (List (Nat × (Nat × (Nat × Unit))))) : Option (Bool) :=
  laws_whole3_g N v1 (laws_whole3_l0 N N)
set_option maxRecDepth 100000
noncomputable def laws_whole3_e0 (N : Nat) (n : Nat) (v1 : (List (Nat × (Nat × (Nat × Unit))))) (v5 : Int) : Option (HR [.bool]) :=
  loopN (advOf (laws_whole3_E N) (codeAt (bodyOf Try.f47) [1, 0, 1, 0, 0])) (evC (laws_whole3_E N) (codeAt (bodyOf Try.f47) [1, 0, 1, 0, 0])) n ⟨[(5, .pv (.list (.pair .float (.pair .float (.pair .float .unit)))) v1), (6, .pv (.int .i64) (v1.length : Int)), (7, .pv (.int .i64) v5)], [], []⟩ (kBlock 0 (kSeq (advOf (laws_whole3_E N) (codeAt (bodyOf Try.f47) [1, 1])) (evC (laws_whole3_E N) (codeAt (bodyOf Try.f47) [1, 1])) (kEnd (laws_whole3_E N) [] Try.f47.results.toList [.bool])))
theorem laws_whole3_t0 (N : Nat) : ∀ (n : Nat) (v1 : (List (Nat × (Nat × (Nat × Unit))))) (v5 : Int), laws_whole3_e0 N n v1 v5 = laws_whole3_l0 N n v1 v5
  | 0, _, _ => rfl
  | n + 1, v1, v5 => by
    have h : laws_whole3_e0 N n v1 = laws_whole3_l0 N n v1 := by funext v5; exact laws_whole3_t0 N n v1 v5
    exact (show laws_whole3_e0 N (n + 1) v1 v5 = laws_whole3_g0 N v1 (laws_whole3_e0 N n v1) v5 from by kernel_rfl).trans (by rw [h]; rfl)
theorem laws_whole3_t (N : Nat) (v1 : (List (Nat × (Nat × (Nat × Unit))))) : evF (laws_whole3_E N) [] Try.f47 [.k (.list (.pair .float (.pair .float (.pair .float .unit))))] [.bool] (v1, ()) = laws_whole3 N v1 := by
  have h0 : (laws_whole3_e0 N N) = (laws_whole3_l0 N N) := by funext v1 v5; exact laws_whole3_t0 N N v1 v5
  exact (show evF (laws_whole3_E N) [] Try.f47 [.k (.list (.pair .float (.pair .float (.pair .float .unit))))] [.bool] (v1, ()) = laws_whole3_g N v1 (laws_whole3_e0 N N) from by kernel_rfl).trans (by rw [h0]; rfl)
noncomputable def laws_whole3_con (N : Nat) : Con := ⟨47, [.k (.list (.pair .float (.pair .float (.pair .float .unit))))], [.bool], fun x => laws_whole3 N x.1⟩
theorem laws_whole3_s (N : Nat) : (laws_whole3_con N).Sound Try.prog :=
  Con.sound_of (c := laws_whole3_con N) (E := (laws_whole3_E N)) (idle := []) Try.func47 (by kernel_rfl) (by kernel_rfl) ⟨(allCons (spec_Grid_s N) allNil), (allCons (laws_off3_s N) allNil)⟩ allNil (fun x y h => (laws_whole3_t N x.1).trans h)
/-- pub-orthodrome/laws.box3 -/
noncomputable def laws_box3_E (N : Nat) : Env := ⟨Try.prog, N, [], [(0, ⟨[], [], [0, 1], [], none⟩), (1, ⟨[], [], [2, 3, 4], [2, 3, 4], none⟩)], kdL [], []⟩
def laws_box3_g (N : Nat) (v1 : (Nat × (Nat × (Nat × Unit)))) (v2 : (Nat × (Nat × (Nat × Unit)))) : Option (((Nat × (Nat × (Nat × Unit))) × ((Nat × (Nat × (Nat × Unit))) × Unit))) :=
  (some ((v1.1, v1.2.1, v1.2.2.1, ()), (v2.1, v2.2.1, v2.2.2.1, ()), ()))
def laws_box3 (N : Nat) (v1 : (Nat × (Nat × (Nat × Unit)))) (v2 : (Nat × (Nat × (Nat × Unit)))) : Option (((Nat × (Nat × (Nat × Unit))) × ((Nat × (Nat × (Nat × Unit))) × Unit))) :=
  laws_box3_g N v1 v2
set_option maxRecDepth 100000
theorem laws_box3_t (N : Nat) (v1 : (Nat × (Nat × (Nat × Unit)))) (v2 : (Nat × (Nat × (Nat × Unit)))) : evF (laws_box3_E N) [] Try.f48 [.k (.pair .float (.pair .float (.pair .float .unit))), .k (.pair .float (.pair .float (.pair .float .unit)))] [(.pair (.pair .float (.pair .float (.pair .float .unit))) (.pair (.pair .float (.pair .float (.pair .float .unit))) .unit))] (v1, v2, ()) = laws_box3 N v1 v2 := by
  exact (show evF (laws_box3_E N) [] Try.f48 [.k (.pair .float (.pair .float (.pair .float .unit))), .k (.pair .float (.pair .float (.pair .float .unit)))] [(.pair (.pair .float (.pair .float (.pair .float .unit))) (.pair (.pair .float (.pair .float (.pair .float .unit))) .unit))] (v1, v2, ()) = laws_box3_g N v1 v2 from by kernel_rfl).trans (by rfl)
noncomputable def laws_box3_con (N : Nat) : Con := ⟨48, [.k (.pair .float (.pair .float (.pair .float .unit))), .k (.pair .float (.pair .float (.pair .float .unit)))], [(.pair (.pair .float (.pair .float (.pair .float .unit))) (.pair (.pair .float (.pair .float (.pair .float .unit))) .unit))], fun x => laws_box3 N x.1 x.2.1⟩
theorem laws_box3_s (N : Nat) : (laws_box3_con N).Sound Try.prog :=
  Con.sound_of (c := laws_box3_con N) (E := (laws_box3_E N)) (idle := []) Try.func48 (by kernel_rfl) (by kernel_rfl) ⟨allNil, allNil⟩ allNil (fun x y h => (laws_box3_t N x.1 x.2.1).trans h)
/-- pub-orthodrome/impl.vec3 -/
noncomputable def impl_vec3_E (N : Nat) : Env := ⟨Try.prog, N, [], [(0, ⟨[], [], [0], [], none⟩), (1, ⟨[], [], [1, 2], [1, 2], none⟩)], kdL [], []⟩
def impl_vec3_g (N : Nat) (v1 : (Nat × (Nat × (Nat × Unit)))) : Option ((Nat × (Nat × (Nat × Unit)))) :=
  (some (v1.1, v1.2.1, v1.2.2.1, ()))
def impl_vec3 (N : Nat) (v1 : (Nat × (Nat × (Nat × Unit)))) : Option ((Nat × (Nat × (Nat × Unit)))) :=
  impl_vec3_g N v1
set_option maxRecDepth 100000
theorem impl_vec3_t (N : Nat) (v1 : (Nat × (Nat × (Nat × Unit)))) : evF (impl_vec3_E N) [] Try.f102 [.k (.pair .float (.pair .float (.pair .float .unit)))] [(.pair .float (.pair .float (.pair .float .unit)))] (v1, ()) = impl_vec3 N v1 := by
  exact (show evF (impl_vec3_E N) [] Try.f102 [.k (.pair .float (.pair .float (.pair .float .unit)))] [(.pair .float (.pair .float (.pair .float .unit)))] (v1, ()) = impl_vec3_g N v1 from by kernel_rfl).trans (by rfl)
noncomputable def impl_vec3_con (N : Nat) : Con := ⟨102, [.k (.pair .float (.pair .float (.pair .float .unit)))], [(.pair .float (.pair .float (.pair .float .unit)))], fun x => impl_vec3 N x.1⟩
theorem impl_vec3_s (N : Nat) : (impl_vec3_con N).Sound Try.prog :=
  Con.sound_of (c := impl_vec3_con N) (E := (impl_vec3_E N)) (idle := []) Try.func102 (by kernel_rfl) (by kernel_rfl) ⟨allNil, allNil⟩ allNil (fun x y h => (impl_vec3_t N x.1).trans h)
/-- (pub-orthodrome/pub/gonum/spatial/r3.Box).Empty -/
noncomputable def r3_Box_Empty_E (N : Nat) : Env := ⟨Try.prog, N, [], [(0, ⟨[], [], [0], [], none⟩), (1, ⟨[], [], [1], [1], none⟩)], kdL [], []⟩
def r3_Box_Empty_g (N : Nat) (v1 : ((Nat × (Nat × (Nat × Unit))) × ((Nat × (Nat × (Nat × Unit))) × Unit))) : Option (Bool) :=
  (bif (fge v1.1.1 v1.2.1.1) then (some true) else (bif (fge v1.1.2.1 v1.2.1.2.1) then (some true) else (some (fge v1.1.2.2.1 v1.2.1.2.2.1))))
def r3_Box_Empty (N : Nat) (v1 : ((Nat × (Nat × (Nat × Unit))) × ((Nat × (Nat × (Nat × Unit))) × Unit))) : Option (Bool) :=
  r3_Box_Empty_g N v1
set_option maxRecDepth 100000
theorem r3_Box_Empty_t (N : Nat) (v1 : ((Nat × (Nat × (Nat × Unit))) × ((Nat × (Nat × (Nat × Unit))) × Unit))) : evF (r3_Box_Empty_E N) [] Try.f103 [.k (.pair (.pair .float (.pair .float (.pair .float .unit))) (.pair (.pair .float (.pair .float (.pair .float .unit))) .unit))] [.bool] (v1, ()) = r3_Box_Empty N v1 := by
  exact (show evF (r3_Box_Empty_E N) [] Try.f103 [.k (.pair (.pair .float (.pair .float (.pair .float .unit))) (.pair (.pair .float (.pair .float (.pair .float .unit))) .unit))] [.bool] (v1, ()) = r3_Box_Empty_g N v1 from by kernel_rfl).trans (by rfl)
noncomputable def r3_Box_Empty_con (N : Nat) : Con := ⟨103, [.k (.pair (.pair .float (.pair .float (.pair .float .unit))) (.pair (.pair .float (.pair .float (.pair .float .unit))) .unit))], [.bool], fun x => r3_Box_Empty N x.1⟩
theorem r3_Box_Empty_s (N : Nat) : (r3_Box_Empty_con N).Sound Try.prog :=
  Con.sound_of (c := r3_Box_Empty_con N) (E := (r3_Box_Empty_E N)) (idle := []) Try.func103 (by kernel_rfl) (by kernel_rfl) ⟨allNil, allNil⟩ allNil (fun x y h => (r3_Box_Empty_t N x.1).trans h)
/-- pub-orthodrome/impl.Empty3 -/
noncomputable def impl_Empty3_E (N : Nat) : Env := ⟨Try.prog, N, [impl_vec3_con N, r3_Box_Empty_con N], [(0, ⟨[], [], [0], [], none⟩), (1, ⟨[], [], [1], [1], none⟩)], kdL [], []⟩
def impl_Empty3_g (N : Nat) (v1 : ((Nat × (Nat × (Nat × Unit))) × ((Nat × (Nat × (Nat × Unit))) × Unit))) : Option (Bool) :=
  ((impl_vec3 N (v1.1.1, v1.1.2.1, v1.1.2.2.1, ())).bind fun v2 => (impl_vec3 N (v1.2.1.1, v1.2.1.2.1, v1.2.1.2.2.1, ())).bind fun v3 => (r3_Box_Empty N ((v2.1, v2.2.1, v2.2.2.1, ()), (v3.1, v3.2.1, v3.2.2.1, ()), ())).bind fun v4 => (some v4))
def impl_Empty3 (N : Nat) (v1 : ((Nat × (Nat × (Nat × Unit))) × ((Nat × (Nat × (Nat × Unit))) × Unit))) : Option (Bool) :=
  impl_Empty3_g N v1
set_option maxRecDepth 100000
theorem impl_Empty3_t (N : Nat) (v1 : ((Nat × (Nat × (Nat × Unit))) × ((Nat × (Nat × (Nat × Unit))) × Unit))) : evF (impl_Empty3_E N) [] Try.f49 [.k (.pair (.pair .float (.pair .float (.pair .float .unit))) (.pair (.pair .float (.pair .float (.pair .float .unit))) .unit))] [.bool] (v1, ()) = impl_Empty3 N v1 := by
  exact (show evF (impl_Empty3_E N) [] Try.f49 [.k (.pair (.pair .float (.pair .float (.pair .float .unit))) (.pair (.pair .float (.pair .float (.pair .float .unit))) .unit))] [.bool] (v1, ()) = impl_Empty3_g N v1 from by kernel_rfl).trans (by rfl)
noncomputable def impl_Empty3_con (N : Nat) : Con := ⟨49, [.k (.pair (.pair .float (.pair .float (.pair .float .unit))) (.pair (.pair .float (.pair .float (.pair .float .unit))) .unit))], [.bool], fun x => impl_Empty3 N x.1⟩
theorem impl_Empty3_s (N : Nat) : (impl_Empty3_con N).Sound Try.prog :=
  Con.sound_of (c := impl_Empty3_con N) (E := (impl_Empty3_E N)) (idle := []) Try.func49 (by kernel_rfl) (by kernel_rfl) ⟨(allCons (impl_vec3_s N) (allCons (r3_Box_Empty_s N) allNil)), allNil⟩ allNil (fun x y h => (impl_Empty3_t N x.1).trans h)
/-- pub-orthodrome/pub/gonum/spatial/r3.minElem -/
noncomputable def r3_minElem_E (N : Nat) : Env := ⟨Try.prog, N, [math_Min_con N], [(0, ⟨[], [], [0, 1], [], none⟩), (1, ⟨[], [], [2, 3, 4], [2, 3, 4], none⟩)], kdL [], []⟩
def r3_minElem_g (N : Nat) (v1 : (Nat × (Nat × (Nat × Unit)))) (v2 : (Nat × (Nat × (Nat × Unit)))) : Option ((Nat × (Nat × (Nat × Unit)))) :=
  ((math_Min N v1.1 v2.1).bind fun v3 => (math_Min N v1.2.1 v2.2.1).bind fun v4 => (math_Min N v1.2.2.1 v2.2.2.1).bind fun v5 => (some (v3, v4, v5, ())))
def r3_minElem (N : Nat) (v1 : (Nat × (Nat × (Nat × Unit)))) (v2 : (Nat × (Nat × (Nat × Unit)))) : Option ((Nat × (Nat × (Nat × Unit)))) :=
  r3_minElem_g N v1 v2
set_option maxRecDepth 100000
theorem r3_minElem_t (N : Nat) (v1 : (Nat × (Nat × (Nat × Unit)))) (v2 : (Nat × (Nat × (Nat × Unit)))) : evF (r3_minElem_E N) [] Try.f134 [.k (.pair .float (.pair .float (.pair .float .unit))), .k (.pair .float (.pair .float (.pair .float .unit)))] [(.pair .float (.pair .float (.pair .float .unit)))] (v1, v2, ()) = r3_minElem N v1 v2 := by
  exact (show evF (r3_minElem_E N) [] Try.f134 [.k (.pair .float (.pair .float (.pair .float .unit))), .k (.pair .float (.pair .float (.pair .float .unit)))] [(.pair .float (.pair .float (.pair .float .unit)))] (v1, v2, ()) = r3_minElem_g N v1 v2 from by kernel_rfl).trans (by rfl)
noncomputable def r3_minElem_con (N : Nat) : Con := ⟨134, [.k (.pair .float (.pair .float (.pair .float .unit))), .k (.pair .float (.pair .float (.pair .float .unit)))], [(.pair .float (.pair .float (.pair .float .unit)))], fun x => r3_minElem N x.1 x.2.1⟩
theorem r3_minElem_s (N : Nat) : (r3_minElem_con N).Sound Try.prog :=
  Con.sound_of (c := r3_minElem_con N) (E := (r3_minElem_E N)) (idle := []) Try.func134 (by kernel_rfl) (by kernel_rfl) ⟨(allCons (math_Min_s N) allNil), allNil⟩ allNil (fun x y h => (r3_minElem_t N x.1 x.2.1).trans h)
/-- pub-orthodrome/pub/gonum/spatial/r3.maxElem -/
noncomputable def r3_maxElem_E (N : Nat) : Env := ⟨Try.prog, N, [math_Max_con N], [(0, ⟨[], [], [0, 1], [], none⟩), (1, ⟨[], [], [2, 3, 4], [2, 3, 4], none⟩)], kdL [], []⟩
def r3_maxElem_g (N : Nat) (v1 : (Nat × (Nat × (Nat × Unit)))) (v2 : (Nat × (Nat × (Nat × Unit)))) : Option ((Nat × (Nat × (Nat × Unit)))) :=
  ((math_Max N v1.1 v2.1).bind fun v3 => (math_Max N v1.2.1 v2.2.1).bind fun v4 => (math_Max N v1.2.2.1 v2.2.2.1).bind fun v5 => (some (v3, v4, v5, ())))
def r3_maxElem (N : Nat) (v1 : (Nat × (Nat × (Nat × Unit)))) (v2 : (Nat × (Nat × (Nat × Unit)))) : Option ((Nat × (Nat × (Nat × Unit)))) :=
  r3_maxElem_g N v1 v2
set_option maxRecDepth 100000
theorem r3_maxElem_t (N : Nat) (v1 : (Nat × (Nat × (Nat × Unit)))) (v2 : (Nat × (Nat × (Nat × Unit)))) : evF (r3_maxElem_E N) [] Try.f135 [.k (.pair .float (.pair .float (.pair .float .unit))), .k (.pair .float (.pair .float (.pair .float .unit)))] [(.pair .float (.pair .float (.pair .float .unit)))] (v1, v2, ()) = r3_maxElem N v1 v2 := by
  exact (show evF (r3_maxElem_E N) [] Try.f135 [.k (.pair .float (.pair .float (.pair .float .unit))), .k (.pair .float (.pair .float (.pair .float .unit)))] [(.pair .float (.pair .float (.pair .float .unit)))] (v1, v2, ()) = r3_maxElem_g N v1 v2 from by kernel_rfl).trans (by rfl)
noncomputable def r3_maxElem_con (N : Nat) : Con := ⟨135, [.k (.pair .float (.pair .float (.pair .float .unit))), .k (.pair .float (.pair .float (.pair .float .unit)))], [(.pair .float (.pair .float (.pair .float .unit)))], fun x => r3_maxElem N x.1 x.2.1⟩
theorem r3_maxElem_s (N : Nat) : (r3_maxElem_con N).Sound Try.prog :=
  Con.sound_of (c := r3_maxElem_con N) (E := (r3_maxElem_E N)) (idle := []) Try.func135 (by kernel_rfl) (by kernel_rfl) ⟨(allCons (math_Max_s N) allNil), allNil⟩ allNil (fun x y h => (r3_maxElem_t N x.1 x.2.1).trans h)
/-- (pub-orthodrome/pub/gonum/spatial/r3.Box).Union -/
noncomputable def r3_Box_Union_E (N : Nat) : Env := ⟨Try.prog, N, [r3_Box_Empty_con N, r3_minElem_con N, r3_maxElem_con N], [(0, ⟨[], [], [0, 1], [], none⟩), (1, ⟨[], [], [2, 3, 4], [2, 3, 4], none⟩), (2, ⟨[], [], [2, 3, 4, 6], [2, 3, 4], none⟩), (3, ⟨[], [], [2, 3, 4], [2, 3, 4], none⟩), (4, ⟨[], [], [2, 3, 4, 9], [2, 3, 4], none⟩), (5, ⟨[], [], [2, 3, 4], [2, 3, 4], none⟩)], kdL [], []⟩
def r3_Box_Union_g (N : Nat) (v1 : ((Nat × (Nat × (Nat × Unit))) × ((Nat × (Nat × (Nat × Unit))) × Unit))) (v2 : ((Nat × (Nat × (Nat × Unit))) × ((Nat × (Nat × (Nat × Unit))) × Unit))) : Option (((Nat × (Nat × (Nat × Unit))) × ((Nat × (Nat × (Nat × Unit))) × Unit))) :=
  ((r3_Box_Empty N ((v1.1.1, v1.1.2.1, v1.1.2.2.1, ()), (v1.2.1.1, v1.2.1.2.1, v1.2.1.2.2.1, ()), ())).bind fun v3 => (bif v3 then (some ((v2.1.1, v2.1.2.1, v2.1.2.2.1, ()), (v2.2.1.1, v2.2.1.2.1, v2.2.1.2.2.1, ()), ())) else ((r3_Box_Empty N ((v2.1.1, v2.1.2.1, v2.1.2.2.1, ()), (v2.2.1.1, v2.2.1.2.1, v2.2.1.2.2.1, ()), ())).bind fun v4 => (bif v4 then (some ((v1.1.1, v1.1.2.1, v1.1.2.2.1, ()), (v1.2.1.1, v1.2.1.2.1, v1.2.1.2.2.1, ()), ())) else ((r3_minElem N (v1.1.1, v1.1.2.1, v1.1.2.2.1, ()) (v2.1.1, v2.1.2.1, v2.1.2.2.1, ())).bind fun v5 => (r3_maxElem N (v1.2.1.1, v1.2.1.2.1, v1.2.1.2.2.1, ()) (v2.2.1.1, v2.2.1.2.1, v2.2.1.2.2.1, ())).bind fun v6 => (some ((v5.1, v5.2.1, v5.2.2.1, ()), (v6.1, v6.2.1, v6.2.2.1, ()), ())))))))
def r3_Box_Union (N : Nat) (v1 : ((Nat × (Nat × (Nat × Unit))) × ((Nat × (Nat × (Nat × Unit))) × Unit))) (v2 : ((Nat × (Nat × (Nat × Unit))) × ((Nat × (Nat × (Nat × Unit))) × Unit))) : Option (((Nat × (Nat × (Nat × Unit))) × ((Nat × (Nat × (Nat × Unit))) × Unit))) :=
  r3_Box_Union_g N v1 v2
set_option maxRecDepth 100000
theorem r3_Box_Union_t (N : Nat) (v1 : ((Nat × (Nat × (Nat × Unit))) × ((Nat × (Nat × (Nat × Unit))) × Unit))) (v2 : ((Nat × (Nat × (Nat × Unit))) × ((Nat × (Nat × (Nat × Unit))) × Unit))) : evF (r3_Box_Union_E N) [] Try.f105 [.k (.pair (.pair .float (.pair .float (.pair .float .unit))) (.pair (.pair .float (.pair .float (.pair .float .unit))) .unit)), .k (.pair (.pair .float (.pair .float (.pair .float .unit))) (.pair (.pair .float (.pair .float (.pair .float .unit))) .unit))] [(.pair (.pair .float (.pair .float (.pair .float .unit))) (.pair (.pair .float (.pair .float (.pair .float .unit))) .unit))] (v1, v2, ()) = r3_Box_Union N v1 v2 := by
  exact (show evF (r3_Box_Union_E N) [] Try.f105 [.k (.pair (.pair .float (.pair .float (.pair .float .unit))) (.pair (.pair .float (.pair .float (.pair .float .unit))) .unit)), .k (.pair (.pair .float (.pair .float (.pair .float .unit))) (.pair (.pair .float (.pair .float (.pair .float .unit))) .unit))] [(.pair (.pair .float (.pair .float (.pair .float .unit))) (.pair (.pair .float (.pair .float (.pair .float .unit))) .unit))] (v1, v2, ()) = r3_Box_Union_g N v1 v2 from by kernel_rfl).trans (by rfl)
noncomputable def r3_Box_Union_con (N : Nat) : Con := ⟨105, [.k (.pair (.pair .float (.pair .float (.pair .float .unit))) (.pair (.pair .float (.pair .float (.pair .float .unit))) .unit)), .k (.pair (.pair .float (.pair .float (.pair .float .unit))) (.pair (.pair .float (.pair .float (.pair .float .unit))) .unit))], [(.pair (.pair .float (.pair .float (.pair .float .unit))) (.pair (.pair .float (.pair .float (.pair .float .unit))) .unit))], fun x => r3_Box_Union N x.1 x.2.1⟩
theorem r3_Box_Union_s (N : Nat) : (r3_Box_Union_con N).Sound Try.prog :=
  Con.sound_of (c := r3_Box_Union_con N) (E := (r3_Box_Union_E N)) (idle := []) Try.func105 (by kernel_rfl) (by kernel_rfl) ⟨(allCons (r3_Box_Empty_s N) (allCons (r3_minElem_s N) (allCons (r3_maxElem_s N) allNil))), allNil⟩ allNil (fun x y h => (r3_Box_Union_t N x.1 x.2.1).trans h)
/-- pub-orthodrome/impl.plainP3 -/
noncomputable def impl_plainP3_E (N : Nat) : Env := ⟨Try.prog, N, [], [(0, ⟨[], [], [0], [], none⟩), (1, ⟨[], [], [1, 2], [1, 2], none⟩)], kdL [], []⟩
def impl_plainP3_g (N : Nat) (v1 : (Nat × (Nat × (Nat × Unit)))) : Option ((Nat × (Nat × (Nat × Unit)))) :=
  (some (v1.1, v1.2.1, v1.2.2.1, ()))
def impl_plainP3 (N : Nat) (v1 : (Nat × (Nat × (Nat × Unit)))) : Option ((Nat × (Nat × (Nat × Unit)))) :=
  impl_plainP3_g N v1
set_option maxRecDepth 100000
theorem impl_plainP3_t (N : Nat) (v1 : (Nat × (Nat × (Nat × Unit)))) : evF (impl_plainP3_E N) [] Try.f133 [.k (.pair .float (.pair .float (.pair .float .unit)))] [(.pair .float (.pair .float (.pair .float .unit)))] (v1, ()) = impl_plainP3 N v1 := by
  exact (show evF (impl_plainP3_E N) [] Try.f133 [.k (.pair .float (.pair .float (.pair .float .unit)))] [(.pair .float (.pair .float (.pair .float .unit)))] (v1, ()) = impl_plainP3_g N v1 from by kernel_rfl).trans (by rfl)
noncomputable def impl_plainP3_con (N : Nat) : Con := ⟨133, [.k (.pair .float (.pair .float (.pair .float .unit)))], [(.pair .float (.pair .float (.pair .float .unit)))], fun x => impl_plainP3 N x.1⟩
theorem impl_plainP3_s (N : Nat) : (impl_plainP3_con N).Sound Try.prog :=
  Con.sound_of (c := impl_plainP3_con N) (E := (impl_plainP3_E N)) (idle := []) Try.func133 (by kernel_rfl) (by kernel_rfl) ⟨allNil, allNil⟩ allNil (fun x y h => (impl_plainP3_t N x.1).trans h)
/-- pub-orthodrome/impl.plainBox3 -/
noncomputable def impl_plainBox3_E (N : Nat) : Env := ⟨Try.prog, N, [impl_plainP3_con N], [(0, ⟨[], [], [0], [], none⟩), (1, ⟨[], [], [1, 2], [1, 2], none⟩)], kdL [], []⟩
def impl_plainBox3_g (N : Nat) (v1 : ((Nat × (Nat × (Nat × Unit))) × ((Nat × (Nat × (Nat × Unit))) × Unit))) : Option (((Nat × (Nat × (Nat × Unit))) × ((Nat × (Nat × (Nat × Unit))) × Unit))) :=
  ((impl_plainP3 N (v1.1.1, v1.1.2.1, v1.1.2.2.1, ())).bind fun v2 => (impl_plainP3 N (v1.2.1.1, v1.2.1.2.1, v1.2.1.2.2.1, ())).bind fun v3 => (some ((v2.1, v2.2.1, v2.2.2.1, ()), (v3.1, v3.2.1, v3.2.2.1, ()), ())))
def impl_plainBox3 (N : Nat) (v1 : ((Nat × (Nat × (Nat × Unit))) × ((Nat × (Nat × (Nat × Unit))) × Unit))) : Option (((Nat × (Nat × (Nat × Unit))) × ((Nat × (Nat × (Nat × Unit))) × Unit))) :=
  impl_plainBox3_g N v1
set_option maxRecDepth 100000
theorem impl_plainBox3_t (N : Nat) (v1 : ((Nat × (Nat × (Nat × Unit))) × ((Nat × (Nat × (Nat × Unit))) × Unit))) : evF (impl_plainBox3_E N) [] Try.f104 [.k (.pair (.pair .float (.pair .float (.pair .float .unit))) (.pair (.pair .float (.pair .float (.pair .float .unit))) .unit))] [(.pair (.pair .float (.pair .float (.pair .float .unit))) (.pair (.pair .float (.pair .float (.pair .float .unit))) .unit))] (v1, ()) = impl_plainBox3 N v1 := by
  exact (show evF (impl_plainBox3_E N) [] Try.f104 [.k (.pair (.pair .float (.pair .float (.pair .float .unit))) (.pair (.pair .float (.pair .float (.pair .float .unit))) .unit))] [(.pair (.pair .float (.pair .float (.pair .float .unit))) (.pair (.pair .float (.pair .float (.pair .float .unit))) .unit))] (v1, ()) = impl_plainBox3_g N v1 from by kernel_rfl).trans (by rfl)
noncomputable def impl_plainBox3_con (N : Nat) : Con := ⟨104, [.k (.pair (.pair .float (.pair .float (.pair .float .unit))) (.pair (.pair .float (.pair .float (.pair .float .unit))) .unit))], [(.pair (.pair .float (.pair .float (.pair .float .unit))) (.pair (.pair .float (.pair .float (.pair .float .unit))) .unit))], fun x => impl_plainBox3 N x.1⟩
theorem impl_plainBox3_s (N : Nat) : (impl_plainBox3_con N).Sound Try.prog :=
  Con.sound_of (c := impl_plainBox3_con N) (E := (impl_plainBox3_E N)) (idle := []) Try.func104 (by kernel_rfl) (by kernel_rfl) ⟨(allCons (impl_plainP3_s N) allNil), allNil⟩ allNil (fun x y h => (impl_plainBox3_t N x.1).trans h)
/-- pub-orthodrome/impl.Union3 -/
noncomputable def impl_Union3_E (N : Nat) : Env := ⟨Try.prog, N, [impl_vec3_con N, r3_Box_Union_con N, impl_plainBox3_con N], [(0, ⟨[], [], [0, 1], [], none⟩), (1, ⟨[], [], [2, 3, 4], [2, 3, 4], none⟩)], kdL [], []⟩
def impl_Union3_g (N : Nat) (v1 : ((Nat × (Nat × (Nat × Unit))) × ((Nat × (Nat × (Nat × Unit))) × Unit))) (v2 : ((Nat × (Nat × (Nat × Unit))) × ((Nat × (Nat × (Nat × Unit))) × Unit))) : Option (((Nat × (Nat × (Nat × Unit))) × ((Nat × (Nat × (Nat × Unit))) × Unit))) :=
  ((impl_vec3 N (v1.1.1, v1.1.2.1, v1.1.2.2.1, ())).bind fun v3 => (impl_vec3 N (v1.2.1.1, v1.2.1.2.1, v1.2.1.2.2.1, ())).bind fun v4 => (impl_vec3 N (v2.1.1, v2.1.2.1, v2.1.2.2.1, ())).bind fun v5 => (impl_vec3 N (v2.2.1.1, v2.2.1.2.1, v2.2.1.2.2.1, ())).bind fun v6 => (r3_Box_Union N ((v3.1, v3.2.1, v3.2.2.1, ()), (v4.1, v4.2.1, v4.2.2.1, ()), ()) ((v5.1, v5.2.1, v5.2.2.1, ()), (v6.1, v6.2.1, v6.2.2.1, ()), ())).bind fun v7 => (impl_plainBox3 N v7).bind fun v8 => (some ((v8.1.1, v8.1.2.1, v8.1.2.2.1, ()), (v8.2.1.1, v8.2.1.2.1, v8.2.1.2.2.1, ()), ())))
def impl_Union3 (N : Nat) (v1 : ((Nat × (Nat × (Nat × Unit))) × ((Nat × (Nat × (Nat × Unit))) × Unit))) (v2 : ((Nat × (Nat × (Nat × Unit))) × ((Nat × (Nat × (Nat × Unit))) × Unit))) : Option (((Nat × (Nat × (Nat × Unit))) × ((Nat × (Nat × (Nat × Unit))) × Unit))) :=
  impl_Union3_g N v1 v2
set_option maxRecDepth 100000
theorem impl_Union3_t (N : Nat) (v1 : ((Nat × (Nat × (Nat × Unit))) × ((Nat × (Nat × (Nat × Unit))) × Unit))) (v2 : ((Nat × (Nat × (Nat × Unit))) × ((Nat × (Nat × (Nat × Unit))) × Unit))) : evF (impl_Union3_E N) [] Try.f50 [.k (.pair (.pair .float (.pair .float (.pair .float .unit))) (.pair (.pair .float (.pair .float (.pair .float .unit))) .unit)), .k (.pair (.pair .float (.pair .float (.pair .float .unit))) (.pair (.pair .float (.pair .float (.pair .float .unit))) .unit))] [(.pair (.pair .float (.pair .float (.pair .float .unit))) (.pair (.pair .float (.pair .float (.pair .float .unit))) .unit))] (v1, v2, ()) = impl_Union3 N v1 v2 := by
  exact (show evF (impl_Union3_E N) [] Try.f50 [.k (.pair (.pair .float (.pair .float (.pair .float .unit))) (.pair (.pair .float (.pair .float (.pair .float .unit))) .unit)), .k (.pair (.pair .float (.pair .float (.pair .float .unit))) (.pair (.pair .float (.pair .float (.pair .float .unit))) .unit))] [(.pair (.pair .float (.pair .float (.pair .float .unit))) (.pair (.pair .float (.pair .float (.pair .float .unit))) .unit))] (v1, v2, ()) = impl_Union3_g N v1 v2 from by kernel_rfl).trans (by rfl)
noncomputable def impl_Union3_con (N : Nat) : Con := ⟨50, [.k (.pair (.pair .float (.pair .float (.pair .float .unit))) (.pair (.pair .float (.pair .float (.pair .float .unit))) .unit)), .k (.pair (.pair .float (.pair .float (.pair .float .unit))) (.pair (.pair .float (.pair .float (.pair .float .unit))) .unit))], [(.pair (.pair .float (.pair .float (.pair .float .unit))) (.pair (.pair .float (.pair .float (.pair .float .unit))) .unit))], fun x => impl_Union3 N x.1 x.2.1⟩
theorem impl_Union3_s (N : Nat) : (impl_Union3_con N).Sound Try.prog :=
  Con.sound_of (c := impl_Union3_con N) (E := (impl_Union3_E N)) (idle := []) Try.func50 (by kernel_rfl) (by kernel_rfl) ⟨(allCons (impl_vec3_s N) (allCons (r3_Box_Union_s N) (allCons (impl_plainBox3_s N) allNil))), allNil⟩ allNil (fun x y h => (impl_Union3_t N x.1 x.2.1).trans h)
/-- pub-orthodrome/laws.FnBoxUnion3 -/
noncomputable def laws_FnBoxUnion3_E (N : Nat) : Env := ⟨Try.prog, N, [laws_whole3_con N, laws_box3_con N, impl_Empty3_con N, impl_Union3_con N], [(0, ⟨[], [], [0, 1, 2, 3], [], none⟩), (1, ⟨[], [], [4, 5, 6, 7], [4, 5, 6, 7], none⟩), (2, ⟨[], [], [4, 5, 6, 7, 21], [4, 5, 6, 7], none⟩), (3, ⟨[], [], [4, 5, 6, 7], [4, 5, 6, 7], none⟩), (4, ⟨[], [], [4, 5, 6, 7, 9, 10], [4, 5, 6, 7, 9, 10], none⟩), (5, ⟨[], [], [4, 5, 6, 7, 9, 10, 11, 12], [4, 5, 6, 7, 9, 10], none⟩), (6, ⟨[], [], [4, 5, 6, 7, 9, 10, 11, 12, 13], [4, 5, 6, 7, 9, 10, 13], none⟩), (7, ⟨[], [], [4, 5, 6, 7, 9, 10, 11, 12, 13, 35], [4, 5, 6, 7, 9, 10, 13], none⟩), (9, ⟨[], [], [4, 5, 6, 7, 9, 10, 12, 13, 40], [4, 5, 6, 7, 9, 10, 13], none⟩), (11, ⟨[], [], [4, 5, 6, 7, 9, 10, 13, 45], [4, 5, 6, 7, 9, 10, 13], none⟩), (12, ⟨[], [], [4, 5, 6, 7, 9, 10, 13], [4, 5, 6, 7, 9, 10, 13], some N⟩), (13, ⟨[], [], [9, 10, 13, 14], [9, 10, 13, 14], none⟩)], kdL [(71, (.pair .float (.pair .float (.pair .float .unit))))], []⟩
def laws_FnBoxUnion3_g0 (N : Nat) (v1 : (Nat × (Nat × (Nat × Unit)))) (v2 : (Nat × (Nat × (Nat × Unit)))) (v3 : (Nat × (Nat × (Nat × Unit)))) (v4 : (Nat × (Nat × (Nat × Unit)))) (v6 : ((Nat × (Nat × (Nat × Unit))) × ((Nat × (Nat × (Nat × Unit))) × Unit))) (v7 : ((Nat × (Nat × (Nat × Unit))) × ((Nat × (Nat × (Nat × Unit))) × Unit))) (v10 : ((Nat × (Nat × (Nat × Unit))) × ((Nat × (Nat × (Nat × Unit))) × Unit))) : Option (Bool) :=
  (fmm false v1.1 v3.1).bind fun v11 => (fmm false v1.2.1 v3.2.1).bind fun v12 => (fmm false v1.2.2.1 v3.2.2.1).bind fun v13 => (fmm true v2.1 v4.1).bind fun v14 => (fmm true v2.2.1 v4.2.1).bind fun v15 => (fmm true v2.2.2.1 v4.2.2.1).bind fun v16 => (bif (((feq v10.1.1 v11) && ((feq v10.1.2.1 v12) && ((feq v10.1.2.2.1 v13) && true))) && (((feq v10.2.1.1 v14) && ((feq v10.2.1.2.1 v15) && ((feq v10.2.1.2.2.1 v16) && true))) && true)) then ((impl_Union3 N ((v7.1.1, v7.1.2.1, v7.1.2.2.1, ()), (v7.2.1.1, v7.2.1.2.1, v7.2.1.2.2.1, ()), ()) ((v6.1.1, v6.1.2.1, v6.1.2.2.1, ()), (v6.2.1.1, v6.2.1.2.1, v6.2.1.2.2.1, ()), ())).bind fun v17 => (some (((feq v17.1.1 v11) && ((feq v17.1.2.1 v12) && ((feq v17.1.2.2.1 v13) && true))) && (((feq v17.2.1.1 v14) && ((feq v17.2.1.2.1 v15) && ((feq v17.2.1.2.2.1 v16) && true))) && true)))) else (some false))
def laws_FnBoxUnion3_j0 (N : Nat) (v1 : (Nat × (Nat × (Nat × Unit)))) (v2 : (Nat × (Nat × (Nat × Unit)))) (v3 : (Nat × (Nat × (Nat × Unit)))) (v4 : (Nat × (Nat × (Nat × Unit)))) (v6 : ((Nat × (Nat × (Nat × Unit))) × ((Nat × (Nat × (Nat × Unit))) × Unit))) (v7 : ((Nat × (Nat × (Nat × Unit))) × ((Nat × (Nat × (Nat × Unit))) × Unit))) (v10 : ((Nat × (Nat × (Nat × Unit))) × ((Nat × (Nat × (Nat × Unit))) × Unit))) : Option (Bool) :=
  gate N (laws_FnBoxUnion3_g0 N v1 v2 v3 v4 v6 v7 v10)
def laws_FnBoxUnion3_g (N : Nat) (v1 : (Nat × (Nat × (Nat × Unit)))) (v2 : (Nat × (Nat × (Nat × Unit)))) (v3 : (Nat × (Nat × (Nat × Unit)))) (v4 : (Nat × (Nat × (Nat × Unit)))) (c0 : (Nat × (Nat × (Nat × Unit))) → (Nat × (Nat × (Nat × Unit))) → (Nat × (Nat × (Nat × Unit))) → (Nat × (Nat × (Nat × Unit))) → ((Nat × (Nat × (Nat × Unit))) × ((Nat × (Nat × (Nat × Unit))) × Unit)) → ((Nat × (Nat × (Nat × Unit))) × ((Nat × (Nat × (Nat × Unit))) × Unit)) → ((Nat × (Nat × (Nat × Unit))) × ((Nat × (Nat × (Nat × Unit))) × Unit)) → Option (Bool)) : Option (Bool) :=
  ((laws_whole3 N ([(v1.1, v1.2.1, v1.2.2.1, ()), (v2.1, v2.2.1, v2.2.2.1, ()), (v3.1, v3.2.1, v3.2.2.1, ()), (v4.1, v4.2.1, v4.2.2.1, ())] : List (Nat × (Nat × (Nat × Unit))))).bind fun v5 => (bif (!v5) then (some true) else ((laws_box3 N (v1.1, v1.2.1, v1.2.2.1, ()) (v2.1, v2.2.1, v2.2.2.1, ())).bind fun v6 => (laws_box3 N (v3.1, v3.2.1, v3.2.2.1, ()) (v4.1, v4.2.1, v4.2.2.1, ())).bind fun v7 => ((impl_Empty3 N ((v6.1.1, v6.1.2.1, v6.1.2.2.1, ()), (v6.2.1.1, v6.2.1.2.1, v6.2.1.2.2.1, ()), ())).bind fun v8 => (impl_Empty3 N ((v7.1.1, v7.1.2.1, v7.1.2.2.1, ()), (v7.2.1.1, v7.2.1.2.1, v7.2.1.2.2.1, ()), ())).bind fun v9 => ((impl_Union3 N ((v6.1.1, v6.1.2.1, v6.1.2.2.1, ()), (v6.2.1.1, v6.2.1.2.1, v6.2.1.2.2.1, ()), ()) ((v7.1.1, v7.1.2.1, v7.1.2.2.1, ()), (v7.2.1.1, v7.2.1.2.1, v7.2.1.2.2.1, ()), ())).bind fun v10 => (bif v8 then (bif v9 then (some true) else (bif v8 then (some (((feq v10.1.1 v7.1.1) && ((feq v10.1.2.1 v7.1.2.1) && ((feq v10.1.2.2.1 v7.1.2.2.1) && true))) && (((feq v10.2.1.1 v7.2.1.1) && ((feq v10.2.1.2.1 v7.2.1.2.1) && ((feq v10.2.1.2.2.1 v7.2.1.2.2.1) && true))) && true))) else (bif v9 then (some (((feq v10.1.1 v6.1.1) && ((feq v10.1.2.1 v6.1.2.1) && ((feq v10.1.2.2.1 v6.1.2.2.1) && true))) && (((feq v10.2.1.1 v6.2.1.1) && ((feq v10.2.1.2.1 v6.2.1.2.1) && ((feq v10.2.1.2.2.1 v6.2.1.2.2.1) && true))) && true))) else (c0 v1 v2 v3 v4 v6 v7 v10)))) else (bif v8 then (some (((feq v10.1.1 v7.1.1) && ((feq v10.1.2.1 v7.1.2.1) && ((feq v10.1.2.2.1 v7.1.2.2.1) && true))) && (((feq v10.2.1.1 v7.2.1.1) && ((feq v10.2.1.2.1 v7.2.1.2.1) && ((feq v10.2.1.2.2.1 v7.2.1.2.2.1) && true))) && true))) else (bif v9 then (some (((feq v10.1.1 v6.1.1) && ((feq v10.1.2.1 v6.1.2.1) && ((feq v10.1.2.2.1 v6.1.2.2.1) && true))) && (((feq v10.2.1.1 v6.2.1.1) && ((feq v10.2.1.2.1 v6.2.1.2.1) && ((feq v10.2.1.2.2.1 v6.2.1.2.2.1) && true))) && true))) else (c0 v1 v2 v3 v4 v6 v7 v10)))))))))
def laws_FnBoxUnion3 (N : Nat) (v1 : (Nat × (Nat × (Nat × Unit)))) (v2 : (Nat × (Nat × (Nat × Unit)))) (v3 : (Nat × (Nat × (Nat × Unit)))) (v4 : (Nat × (Nat × (Nat × Unit)))) : Option (Bool) :=
  laws_FnBoxUnion3_g N v1 v2 v3 v4 (laws_FnBoxUnion3_j0 N)
set_option maxRecDepth 100000
noncomputable def laws_FnBoxUnion3_e0 (N : Nat) (v1 : (Nat × (Nat × (Nat × Unit)))) (v2 : (Nat × (Nat × (Nat × Unit)))) (v3 : (Nat × (Nat × (Nat × Unit)))) (v4 : (Nat × (Nat × (Nat × Unit)))) (v6 : ((Nat × (Nat × (Nat × Unit))) × ((Nat × (Nat × (Nat × Unit))) × Unit))) (v7 : ((Nat × (Nat × (Nat × Unit))) × ((Nat × (Nat × (Nat × Unit))) × Unit))) (v10 : ((Nat × (Nat × (Nat × Unit))) × ((Nat × (Nat × (Nat × Unit))) × Unit))) : Option (HR [.bool]) :=
  gate N (evC (laws_FnBoxUnion3_E N) (codeAt (bodyOf Try.f10) [1, 1, 1, 1, 1, 1]) ⟨[(4, .ref 4 0), (5, .ref 5 0), (6, .ref 6 0), (7, .ref 7 0), (9, .ref 9 0), (10, .ref 10 0), (13, .ref 13 0)], [(4, .box [.pv .float v1.1, .pv .float v1.2.1, .pv .float v1.2.2.1]), (5, .box [.pv .float v2.1, .pv .float v2.2.1, .pv .float v2.2.2.1]), (6, .box [.pv .float v3.1, .pv .float v3.2.1, .pv .float v3.2.2.1]), (7, .box [.pv .float v4.1, .pv .float v4.2.1, .pv .float v4.2.2.1]), (9, .box [.pv .float v6.1.1, .pv .float v6.1.2.1, .pv .float v6.1.2.2.1, .pv .float v6.2.1.1, .pv .float v6.2.1.2.1, .pv .float v6.2.1.2.2.1]), (10, .box [.pv .float v7.1.1, .pv .float v7.1.2.1, .pv .float v7.1.2.2.1, .pv .float v7.2.1.1, .pv .float v7.2.1.2.1, .pv .float v7.2.1.2.2.1]), (13, .box [.pv .float v10.1.1, .pv .float v10.1.2.1, .pv .float v10.1.2.2.1, .pv .float v10.2.1.1, .pv .float v10.2.1.2.1, .pv .float v10.2.1.2.2.1])], []⟩ (kEnd (laws_FnBoxUnion3_E N) [] Try.f10.results.toList [.bool]))
theorem laws_FnBoxUnion3_t0 (N : Nat) (v1 : (Nat × (Nat × (Nat × Unit)))) (v2 : (Nat × (Nat × (Nat × Unit)))) (v3 : (Nat × (Nat × (Nat × Unit)))) (v4 : (Nat × (Nat × (Nat × Unit)))) (v6 : ((Nat × (Nat × (Nat × Unit))) × ((Nat × (Nat × (Nat × Unit))) × Unit))) (v7 : ((Nat × (Nat × (Nat × Unit))) × ((Nat × (Nat × (Nat × Unit))) × Unit))) (v10 : ((Nat × (Nat × (Nat × Unit))) × ((Nat × (Nat × (Nat × Unit))) × Unit))) : laws_FnBoxUnion3_e0 N v1 v2 v3 v4 v6 v7 v10 = laws_FnBoxUnion3_j0 N v1 v2 v3 v4 v6 v7 v10 := by
  exact (congrArg (gate N) (show evC (laws_FnBoxUnion3_E N) (codeAt (bodyOf Try.f10) [1, 1, 1, 1, 1, 1]) ⟨[(4, .ref 4 0), (5, .ref 5 0), (6, .ref 6 0), (7, .ref 7 0), (9, .ref 9 0), (10, .ref 10 0), (13, .ref 13 0)], [(4, .box [.pv .float v1.1, .pv .float v1.2.1, .pv .float v1.2.2.1]), (5, .box [.pv .float v2.1, .pv .float v2.2.1, .pv .float v2.2.2.1]), (6, .box [.pv .float v3.1, .pv .float v3.2.1, .pv .float v3.2.2.1]), (7, .box [.pv .float v4.1, .pv .float v4.2.1, .pv .float v4.2.2.1]), (9, .box [.pv .float v6.1.1, .pv .float v6.1.2.1, .pv .float v6.1.2.2.1, .pv .float v6.2.1.1, .pv .float v6.2.1.2.1, .pv .float v6.2.1.2.2.1]), (10, .box [.pv .float v7.1.1, .pv .float v7.1.2.1, .pv .float v7.1.2.2.1, .pv .float v7.2.1.1, .pv .float v7.2.1.2.1, .pv .float v7.2.1.2.2.1]), (13, .box [.pv .float v10.1.1, .pv .float v10.1.2.1, .pv .float v10.1.2.2.1, .pv .float v10.2.1.1, .pv .float v10.2.1.2.1, .pv .float v10.2.1.2.2.1])], []⟩ (kEnd (laws_FnBoxUnion3_E N) [] Try.f10.results.toList [.bool]) = laws_FnBoxUnion3_g0 N v1 v2 v3 v4 v6 v7 v10 from by kernel_rfl)).trans (by rfl)
theorem laws_FnBoxUnion3_t (N : Nat) (v1 : (Nat × (Nat × (Nat × Unit)))) (v2 : (Nat × (Nat × (Nat × Unit)))) (v3 : (Nat × (Nat × (Nat × Unit)))) (v4 : (Nat × (Nat × (Nat × Unit)))) : evF (laws_FnBoxUnion3_E N) [] Try.f10 [.k (.pair .float (.pair .float (.pair .float .unit))), .k (.pair .float (.pair .float (.pair .float .unit))), .k (.pair .float (.pair .float (.pair .float .unit))), .k (.pair .float (.pair .float (.pair .float .unit)))] [.bool] (v1, v2, v3, v4, ()) = laws_FnBoxUnion3 N v1 v2 v3 v4 := by
  have h0 : (laws_FnBoxUnion3_e0 N) = (laws_FnBoxUnion3_j0 N) := by funext v1 v2 v3 v4 v6 v7 v10; exact laws_FnBoxUnion3_t0 N v1 v2 v3 v4 v6 v7 v10
  exact (show evF (laws_FnBoxUnion3_E N) [] Try.f10 [.k (.pair .float (.pair .float (.pair .float .unit))), .k (.pair .float (.pair .float (.pair .float .unit))), .k (.pair .float (.pair .float (.pair .float .unit))), .k (.pair .float (.pair .float (.pair .float .unit)))] [.bool] (v1, v2, v3, v4, ()) = laws_FnBoxUnion3_g N v1 v2 v3 v4 (laws_FnBoxUnion3_e0 N) from by kernel_rfl).trans (by rw [h0]; rfl)
noncomputable def laws_FnBoxUnion3_con (N : Nat) : Con := ⟨10, [.k (.pair .float (.pair .float (.pair .float .unit))), .k (.pair .float (.pair .float (.pair .float .unit))), .k (.pair .float (.pair .float (.pair .float .unit))), .k (.pair .float (.pair .float (.pair .float .unit)))], [.bool], fun x => laws_FnBoxUnion3 N x.1 x.2.1 x.2.2.1 x.2.2.2.1⟩
theorem laws_FnBoxUnion3_s (N : Nat) : (laws_FnBoxUnion3_con N).Sound Try.prog :=
  Con.sound_of (c := laws_FnBoxUnion3_con N) (E := (laws_FnBoxUnion3_E N)) (idle := []) Try.func10 (by kernel_rfl) (by kernel_rfl) ⟨(allCons (laws_whole3_s N) (allCons (laws_box3_s N) (allCons (impl_Empty3_s N) (allCons (impl_Union3_s N) allNil)))), allNil⟩ allNil (fun x y h => (laws_FnBoxUnion3_t N x.1 x.2.1 x.2.2.1 x.2.2.2.1).trans h)
end Go.Proofs.Ytgipjhgnnppjgaa.FB
