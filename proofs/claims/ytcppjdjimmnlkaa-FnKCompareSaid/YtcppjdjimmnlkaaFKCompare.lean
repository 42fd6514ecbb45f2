import Derived.Test.YtcppjdjimmnlkaaProg
import Derived.Test.YtcppjdjimmnlkaaAv16
import Derived.Test.YtcppjdjimmnlkaaAv19
import Derived.Test.YtcppjdjimmnlkaaAv20
import Derived.Test.YtcppjdjimmnlkaaAv21
import Derived.KernelRfl
set_option linter.unusedVariables false
namespace Go.Proofs.Ytcppjdjimmnlkaa.FKCompare
open Go Go.Av
/-- math.archTrunc -/
def f48 (N : Nat) (v1 : Nat) : Option Nat := fwhole .zero v1
noncomputable def f48_con (N : Nat) : Con := ⟨48, [.k .float], [.float], fun x => f48 N x.1⟩
theorem f48_s (N : Nat) : (f48_con N).Sound Try.prog := whole_of (name := "math.archTrunc") Try.func48 (by kernel_rfl) (by kernel_rfl) (by kernel_rfl) (by kernel_rfl)
/-- math.Trunc -/
noncomputable def f43_E (N : Nat) : Env := ⟨Try.prog, N, [f48_con N], [(0, ⟨[], [], [0], [], none⟩), (1, ⟨[], [], [0], [], none⟩), (2, ⟨[], [], [0], [], none⟩)], kdL []⟩
def f43_g (N : Nat) (v1 : Nat) : Option (Nat) :=
  ((f48 N v1).bind fun v2 => (some v2))
def f43 (N : Nat) (v1 : Nat) : Option (Nat) :=
  f43_g N v1
set_option maxRecDepth 100000
theorem f43_t (N : Nat) (v1 : Nat) : evF (f43_E N) [] Try.f43 [.k .float] [.float] (v1, ()) = f43 N v1 := by
  exact (show evF (f43_E N) [] Try.f43 [.k .float] [.float] (v1, ()) = f43_g N v1 from by kernel_rfl).trans (by rfl)
noncomputable def f43_con (N : Nat) : Con := ⟨43, [.k .float], [.float], fun x => f43 N x.1⟩
theorem f43_s (N : Nat) : (f43_con N).Sound Try.prog :=
  Con.sound_of (c := f43_con N) (E := (f43_E N)) (idle := []) Try.func43 (by kernel_rfl) (by kernel_rfl) (allCons (f48_s N) allNil) allNil (fun x y h => (f43_t N x.1).trans h)
/-- pub-orthodrome/spec.Grid -/
noncomputable def f36_E (N : Nat) : Env := ⟨Try.prog, N, [f43_con N], [(0, ⟨[], [], [0, 1, 2], [], none⟩), (1, ⟨[], [], [0, 1, 2], [], none⟩), (2, ⟨[], [], [1, 2, 11, 12, 13], [], none⟩), (3, ⟨[], [], [1, 2, 11, 12, 13], [], none⟩), (4, ⟨[], [], [1, 2, 8, 11, 12, 13], [], none⟩), (5, ⟨[], [], [1, 2, 8, 11, 12, 13, 20], [], none⟩), (6, ⟨[], [], [1, 2, 8, 11, 12, 13], [], none⟩), (7, ⟨[], [], [1, 2, 11, 12, 13, 21, 22, 23], [], none⟩), (8, ⟨[], [], [1, 2, 11, 12, 13, 21, 22, 23], [], none⟩), (9, ⟨[], [], [1, 2, 10, 11, 12, 13, 21, 22, 23], [], none⟩), (10, ⟨[], [], [1, 2, 11, 12, 13, 21, 22, 23, 42], [], some N⟩), (11, ⟨[], [], [1, 2, 11, 12, 13, 21, 22, 23], [], none⟩), (12, ⟨[], [], [1, 2, 11, 12, 13], [], none⟩), (13, ⟨[], [], [1], [], none⟩)], kdL []⟩
def f36_g2 (N : Nat) (v2 : Int) (v3 : Nat) (v1 : (List (List Nat))) (v10 : Int) (v11 : (List Nat)) (v14 : Int) (r1 : Int → Option (Bool)) (r0 : Int → Option (Bool)) : Option (Bool) :=
  (some false)
def f36_j2 (N : Nat) (r1 : Int → Option (Bool)) (r0 : Int → Option (Bool)) (v2 : Int) (v3 : Nat) (v1 : (List (List Nat))) (v10 : Int) (v11 : (List Nat)) (v14 : Int) : Option (Bool) :=
  gate N (f36_g2 N v2 v3 v1 v10 v11 v14 r1 r0)
def f36_g1 (N : Nat) (v2 : Int) (v3 : Nat) (v1 : (List (List Nat))) (v10 : Int) (v11 : (List Nat)) (c2 : Int → Option (Bool)) (r1 : Int → Option (Bool)) (r0 : Int → Option (Bool)) (v14 : Int) : Option (Bool) :=
  (bif (decide ((v14 : Int) < (v11.length : Int))) then ((nth v11 v14).bind fun v15 => (bif (fge v15 (fneg v3)) then (bif (!(fle v15 v3)) then (c2 v14) else ((f43 N v15).bind fun v16 => (gate N (bif (fne v15 v16) then (some false) else ((r1 (IntKind.i64.wrap (v14 + 1)))))))) else (c2 v14))) else ((r0 (IntKind.i64.wrap (v10 + 1)))))
def f36_l1 (N : Nat) (r0 : Int → Option (Bool)) (v2 : Int) (v3 : Nat) (v1 : (List (List Nat))) : Nat → Int → (List Nat) → Int → Option (Bool)
  | 0, _, _, _ => none
  | n + 1, v10, v11, v14 => f36_g1 N v2 v3 v1 v10 v11 (f36_j2 N (f36_l1 N r0 v2 v3 v1 n v10 v11) r0 v2 v3 v1 v10 v11) (f36_l1 N r0 v2 v3 v1 n v10 v11) r0 v14
def f36_g0 (N : Nat) (v2 : Int) (v3 : Nat) (v1 : (List (List Nat))) (c1 : Int → (List Nat) → Int → Option (Bool)) (r0 : Int → Option (Bool)) (v10 : Int) : Option (Bool) :=
  (bif (decide ((v10 : Int) < (v1.length : Int))) then ((nth v1 v10).bind fun v11 => (bif ((v11.length : Int) != v2) then (some false) else ((c1 v10 v11 0)))) else (some (decide ((v2 : Int) > 0))))
def f36_l0 (N : Nat) : Nat → Int → Nat → (List (List Nat)) → Int → Option (Bool)
  | 0, _, _, _, _ => none
  | n + 1, v2, v3, v1, v10 => f36_g0 N v2 v3 v1 (f36_l1 N (f36_l0 N n v2 v3 v1) v2 v3 v1 N) (f36_l0 N n v2 v3 v1) v10
def f36_g (N : Nat) (v1 : (List (List Nat))) (v2 : Int) (v3 : Nat) (c0 : Int → Nat → (List (List Nat)) → Int → Option (Bool)) : Option (Bool) :=
  ((c0 v2 v3 v1 0))
def f36 (N : Nat) (v1 : (List (List Nat))) (v2 : Int) (v3 : Nat) : Option (Bool) :=
  f36_g N v1 v2 v3 (f36_l0 N N)
set_option maxRecDepth 100000
noncomputable def f36_e2 (N : Nat) (m1 : Nat) (m0 : Nat) (v2 : Int) (v3 : Nat) (v1 : (List (List Nat))) (v10 : Int) (v11 : (List Nat)) (v14 : Int) : Option (HR [.bool]) :=
  gate N (evC (f36_E N) (codeAt (bodyOf Try.f36) [1, 0, 1, 0, 0, 1, 1, 0, 0, 1, 1, 1, 0, 0, 1, 1, 0, 0, 1, 1]) ⟨[(1, .pv (.int .i64) v2), (2, .pv .float v3), (11, .pv (.list (.list .float)) v1), (12, .pv (.int .i64) (v1.length : Int)), (13, .pv (.int .i64) v10), (21, .pv (.list .float) v11), (22, .pv (.int .i64) (v11.length : Int)), (23, .pv (.int .i64) v14), (42, .pv .bool true)], [], []⟩ (kBlock 3 (kSeq (advOf (f36_E N) (codeAt (bodyOf Try.f36) [1, 0, 1, 0, 0, 1, 1, 0, 0, 1, 1, 1, 0, 0, 1, 1, 1])) (evC (f36_E N) (codeAt (bodyOf Try.f36) [1, 0, 1, 0, 0, 1, 1, 0, 0, 1, 1, 1, 0, 0, 1, 1, 1])) (kSeq (advOf (f36_E N) (codeAt (bodyOf Try.f36) [1, 0, 1, 0, 0, 1, 1, 0, 0, 1, 1, 1, 0, 0])) (fun st K => loopN (advOf (f36_E N) (codeAt (bodyOf Try.f36) [1, 0, 1, 0, 0, 1, 1, 0, 0, 1, 1, 1, 0, 0])) (evC (f36_E N) (codeAt (bodyOf Try.f36) [1, 0, 1, 0, 0, 1, 1, 0, 0, 1, 1, 1, 0, 0])) m1 st K) (kBlock 2 (kBlock 1 (kSeq (advOf (f36_E N) (codeAt (bodyOf Try.f36) [1, 0, 1, 0, 0, 1, 1, 1])) (evC (f36_E N) (codeAt (bodyOf Try.f36) [1, 0, 1, 0, 0, 1, 1, 1])) (kSeq (advOf (f36_E N) (codeAt (bodyOf Try.f36) [1, 0, 1, 0, 0])) (fun st K => loopN (advOf (f36_E N) (codeAt (bodyOf Try.f36) [1, 0, 1, 0, 0])) (evC (f36_E N) (codeAt (bodyOf Try.f36) [1, 0, 1, 0, 0])) m0 st K) (kBlock 0 (kSeq (advOf (f36_E N) (codeAt (bodyOf Try.f36) [1, 1])) (evC (f36_E N) (codeAt (bodyOf Try.f36) [1, 1])) (kEnd (f36_E N) [] Try.f36.results.toList [.bool])))))))))))
noncomputable def f36_e1 (N : Nat) (m0 : Nat) (v2 : Int) (v3 : Nat) (v1 : (List (List Nat))) (n : Nat) (v10 : Int) (v11 : (List Nat)) (v14 : Int) : Option (HR [.bool]) :=
  loopN (advOf (f36_E N) (codeAt (bodyOf Try.f36) [1, 0, 1, 0, 0, 1, 1, 0, 0, 1, 1, 1, 0, 0])) (evC (f36_E N) (codeAt (bodyOf Try.f36) [1, 0, 1, 0, 0, 1, 1, 0, 0, 1, 1, 1, 0, 0])) n ⟨[(1, .pv (.int .i64) v2), (2, .pv .float v3), (11, .pv (.list (.list .float)) v1), (12, .pv (.int .i64) (v1.length : Int)), (13, .pv (.int .i64) v10), (21, .pv (.list .float) v11), (22, .pv (.int .i64) (v11.length : Int)), (23, .pv (.int .i64) v14)], [], []⟩ (kBlock 2 (kBlock 1 (kSeq (advOf (f36_E N) (codeAt (bodyOf Try.f36) [1, 0, 1, 0, 0, 1, 1, 1])) (evC (f36_E N) (codeAt (bodyOf Try.f36) [1, 0, 1, 0, 0, 1, 1, 1])) (kSeq (advOf (f36_E N) (codeAt (bodyOf Try.f36) [1, 0, 1, 0, 0])) (fun st K => loopN (advOf (f36_E N) (codeAt (bodyOf Try.f36) [1, 0, 1, 0, 0])) (evC (f36_E N) (codeAt (bodyOf Try.f36) [1, 0, 1, 0, 0])) m0 st K) (kBlock 0 (kSeq (advOf (f36_E N) (codeAt (bodyOf Try.f36) [1, 1])) (evC (f36_E N) (codeAt (bodyOf Try.f36) [1, 1])) (kEnd (f36_E N) [] Try.f36.results.toList [.bool])))))))
noncomputable def f36_e0 (N : Nat) (n : Nat) (v2 : Int) (v3 : Nat) (v1 : (List (List Nat))) (v10 : Int) : Option (HR [.bool]) :=
  loopN (advOf (f36_E N) (codeAt (bodyOf Try.f36) [1, 0, 1, 0, 0])) (evC (f36_E N) (codeAt (bodyOf Try.f36) [1, 0, 1, 0, 0])) n ⟨[(1, .pv (.int .i64) v2), (2, .pv .float v3), (11, .pv (.list (.list .float)) v1), (12, .pv (.int .i64) (v1.length : Int)), (13, .pv (.int .i64) v10)], [], []⟩ (kBlock 0 (kSeq (advOf (f36_E N) (codeAt (bodyOf Try.f36) [1, 1])) (evC (f36_E N) (codeAt (bodyOf Try.f36) [1, 1])) (kEnd (f36_E N) [] Try.f36.results.toList [.bool])))
theorem f36_t2 (N : Nat) (m1 : Nat) (m0 : Nat) (v2 : Int) (v3 : Nat) (v1 : (List (List Nat))) (v10 : Int) (v11 : (List Nat)) (v14 : Int) : f36_e2 N m1 m0 v2 v3 v1 v10 v11 v14 = f36_j2 N (f36_e1 N m0 v2 v3 v1 m1 v10 v11) (f36_e0 N m0 v2 v3 v1) v2 v3 v1 v10 v11 v14 := by
  exact (congrArg (gate N) (show evC (f36_E N) (codeAt (bodyOf Try.f36) [1, 0, 1, 0, 0, 1, 1, 0, 0, 1, 1, 1, 0, 0, 1, 1, 0, 0, 1, 1]) ⟨[(1, .pv (.int .i64) v2), (2, .pv .float v3), (11, .pv (.list (.list .float)) v1), (12, .pv (.int .i64) (v1.length : Int)), (13, .pv (.int .i64) v10), (21, .pv (.list .float) v11), (22, .pv (.int .i64) (v11.length : Int)), (23, .pv (.int .i64) v14), (42, .pv .bool true)], [], []⟩ (kBlock 3 (kSeq (advOf (f36_E N) (codeAt (bodyOf Try.f36) [1, 0, 1, 0, 0, 1, 1, 0, 0, 1, 1, 1, 0, 0, 1, 1, 1])) (evC (f36_E N) (codeAt (bodyOf Try.f36) [1, 0, 1, 0, 0, 1, 1, 0, 0, 1, 1, 1, 0, 0, 1, 1, 1])) (kSeq (advOf (f36_E N) (codeAt (bodyOf Try.f36) [1, 0, 1, 0, 0, 1, 1, 0, 0, 1, 1, 1, 0, 0])) (fun st K => loopN (advOf (f36_E N) (codeAt (bodyOf Try.f36) [1, 0, 1, 0, 0, 1, 1, 0, 0, 1, 1, 1, 0, 0])) (evC (f36_E N) (codeAt (bodyOf Try.f36) [1, 0, 1, 0, 0, 1, 1, 0, 0, 1, 1, 1, 0, 0])) m1 st K) (kBlock 2 (kBlock 1 (kSeq (advOf (f36_E N) (codeAt (bodyOf Try.f36) [1, 0, 1, 0, 0, 1, 1, 1])) (evC (f36_E N) (codeAt (bodyOf Try.f36) [1, 0, 1, 0, 0, 1, 1, 1])) (kSeq (advOf (f36_E N) (codeAt (bodyOf Try.f36) [1, 0, 1, 0, 0])) (fun st K => loopN (advOf (f36_E N) (codeAt (bodyOf Try.f36) [1, 0, 1, 0, 0])) (evC (f36_E N) (codeAt (bodyOf Try.f36) [1, 0, 1, 0, 0])) m0 st K) (kBlock 0 (kSeq (advOf (f36_E N) (codeAt (bodyOf Try.f36) [1, 1])) (evC (f36_E N) (codeAt (bodyOf Try.f36) [1, 1])) (kEnd (f36_E N) [] Try.f36.results.toList [.bool])))))))))) = f36_g2 N v2 v3 v1 v10 v11 v14 (f36_e1 N m0 v2 v3 v1 m1 v10 v11) (f36_e0 N m0 v2 v3 v1) from by kernel_rfl)).trans (by rfl)
theorem f36_t1 (N : Nat) (m0 : Nat) (v2 : Int) (v3 : Nat) (v1 : (List (List Nat))) : ∀ (n : Nat) (v10 : Int) (v11 : (List Nat)) (v14 : Int), f36_e1 N m0 v2 v3 v1 n v10 v11 v14 = f36_l1 N (f36_e0 N m0 v2 v3 v1) v2 v3 v1 n v10 v11 v14
  | 0, _, _, _ => rfl
  | n + 1, v10, v11, v14 => by
    have h2 : (f36_e2 N n m0 v2 v3 v1 v10 v11) = (f36_j2 N (f36_e1 N m0 v2 v3 v1 n v10 v11) (f36_e0 N m0 v2 v3 v1) v2 v3 v1 v10 v11) := by funext v14; exact f36_t2 N n m0 v2 v3 v1 v10 v11 v14
    have h : f36_e1 N m0 v2 v3 v1 n v10 v11 = f36_l1 N (f36_e0 N m0 v2 v3 v1) v2 v3 v1 n v10 v11 := by funext v14; exact f36_t1 N m0 v2 v3 v1 n v10 v11 v14
    exact (show f36_e1 N m0 v2 v3 v1 (n + 1) v10 v11 v14 = f36_g1 N v2 v3 v1 v10 v11 (f36_e2 N n m0 v2 v3 v1 v10 v11) (f36_e1 N m0 v2 v3 v1 n v10 v11) (f36_e0 N m0 v2 v3 v1) v14 from by kernel_rfl).trans (by rw [h2, h]; rfl)
theorem f36_t0 (N : Nat) : ∀ (n : Nat) (v2 : Int) (v3 : Nat) (v1 : (List (List Nat))) (v10 : Int), f36_e0 N n v2 v3 v1 v10 = f36_l0 N n v2 v3 v1 v10
  | 0, _, _, _, _ => rfl
  | n + 1, v2, v3, v1, v10 => by
    have h1 : (f36_e1 N n v2 v3 v1 N) = (f36_l1 N (f36_e0 N n v2 v3 v1) v2 v3 v1 N) := by funext v10 v11 v14; exact f36_t1 N n v2 v3 v1 N v10 v11 v14
    have h : f36_e0 N n v2 v3 v1 = f36_l0 N n v2 v3 v1 := by funext v10; exact f36_t0 N n v2 v3 v1 v10
    exact (show f36_e0 N (n + 1) v2 v3 v1 v10 = f36_g0 N v2 v3 v1 (f36_e1 N n v2 v3 v1 N) (f36_e0 N n v2 v3 v1) v10 from by kernel_rfl).trans (by rw [h1, h]; rfl)
theorem f36_t (N : Nat) (v1 : (List (List Nat))) (v2 : Int) (v3 : Nat) : evF (f36_E N) [] Try.f36 [.k (.list (.list .float)), .k (.int .i64), .k .float] [.bool] (v1, v2, v3, ()) = f36 N v1 v2 v3 := by
  have h0 : (f36_e0 N N) = (f36_l0 N N) := by funext v2 v3 v1 v10; exact f36_t0 N N v2 v3 v1 v10
  exact (show evF (f36_E N) [] Try.f36 [.k (.list (.list .float)), .k (.int .i64), .k .float] [.bool] (v1, v2, v3, ()) = f36_g N v1 v2 v3 (f36_e0 N N) from by kernel_rfl).trans (by rw [h0]; rfl)
noncomputable def f36_con (N : Nat) : Con := ⟨36, [.k (.list (.list .float)), .k (.int .i64), .k .float], [.bool], fun x => f36 N x.1 x.2.1 x.2.2.1⟩
theorem f36_s (N : Nat) : (f36_con N).Sound Try.prog :=
  Con.sound_of (c := f36_con N) (E := (f36_E N)) (idle := []) Try.func36 (by kernel_rfl) (by kernel_rfl) (allCons (f43_s N) allNil) allNil (fun x y h => (f36_t N x.1 x.2.1 x.2.2.1).trans h)
/-- pub-orthodrome/laws.some -/
noncomputable def f22_E (N : Nat) : Env := ⟨Try.prog, N, [f36_con N], [(0, ⟨[], [], [0, 1], [], none⟩), (1, ⟨[], [], [0, 1], [], none⟩)], kdL [(29, (.list .float))]⟩
def f22_g (N : Nat) (v1 : (List (List Nat))) (v2 : (List Nat)) : Option (Bool) :=
  (bif (decide (((v1.length : Int) : Int) > 0)) then (bif (decide (((v1.length : Int) : Int) ≤ 100)) then (bif (decide (((v2.length : Int) : Int) > 0)) then (bif (decide (((v2.length : Int) : Int) ≤ 6)) then ((f36 N v1 (v2.length : Int) 4697254411347427328).bind fun v3 => bif v3 then ((f36 N ([v2] : List (List Nat)) (v2.length : Int) 4697254411347427328).bind fun v4 => (some v4)) else (some false)) else (some false)) else (some false)) else (some false)) else (some false))
def f22 (N : Nat) (v1 : (List (List Nat))) (v2 : (List Nat)) : Option (Bool) :=
  f22_g N v1 v2
set_option maxRecDepth 100000
theorem f22_t (N : Nat) (v1 : (List (List Nat))) (v2 : (List Nat)) : evF (f22_E N) [] Try.f22 [.k (.list (.list .float)), .k (.list .float)] [.bool] (v1, v2, ()) = f22 N v1 v2 := by
  exact (show evF (f22_E N) [] Try.f22 [.k (.list (.list .float)), .k (.list .float)] [.bool] (v1, v2, ()) = f22_g N v1 v2 from by kernel_rfl).trans (by rfl)
noncomputable def f22_con (N : Nat) : Con := ⟨22, [.k (.list (.list .float)), .k (.list .float)], [.bool], fun x => f22 N x.1 x.2.1⟩
theorem f22_s (N : Nat) : (f22_con N).Sound Try.prog :=
  Con.sound_of (c := f22_con N) (E := (f22_E N)) (idle := []) Try.func22 (by kernel_rfl) (by kernel_rfl) (allCons (f36_s N) allNil) allNil (fun x y h => (f22_t N x.1 x.2.1).trans h)
/-- (pub-orthodrome/pub/gonum/spatial/kdtree.Point).Compare -/
noncomputable def f38_E (N : Nat) : Env := ⟨Try.prog, N, [], [(0, ⟨[], [], [0, 1, 2], [], none⟩), (1, ⟨[], [], [0, 1, 2], [], none⟩), (2, ⟨[], [], [0, 2, 7], [], none⟩)], kdL []⟩
def f38_g (N : Nat) (v1 : (List Nat)) (v2 : (List Nat)) (v3 : Int) : Option (Nat) :=
  ((nth v1 v3).bind fun v4 => (nth v2 v3).bind fun v5 => (Ieee.double.sub v4 v5).bind fun v6 => (some v6))
def f38 (N : Nat) (v1 : (List Nat)) (v2 : (List Nat)) (v3 : Int) : Option (Nat) :=
  f38_g N v1 v2 v3
set_option maxRecDepth 100000
theorem f38_t (N : Nat) (v1 : (List Nat)) (v2 : (List Nat)) (v3 : Int) : evF (f38_E N) [] Try.f38 [.k (.list .float), .ifc 59 (.list .float), .k (.int .i64)] [.float] (v1, v2, v3, ()) = f38 N v1 v2 v3 := by
  exact (show evF (f38_E N) [] Try.f38 [.k (.list .float), .ifc 59 (.list .float), .k (.int .i64)] [.float] (v1, v2, v3, ()) = f38_g N v1 v2 v3 from by kernel_rfl).trans (by rfl)
noncomputable def f38_con (N : Nat) : Con := ⟨38, [.k (.list .float), .ifc 59 (.list .float), .k (.int .i64)], [.float], fun x => f38 N x.1 x.2.1 x.2.2.1⟩
theorem f38_s (N : Nat) : (f38_con N).Sound Try.prog :=
  Con.sound_of (c := f38_con N) (E := (f38_E N)) (idle := []) Try.func38 (by kernel_rfl) (by kernel_rfl) allNil allNil (fun x y h => (f38_t N x.1 x.2.1 x.2.2.1).trans h)
/-- pub-orthodrome/impl.KCompare -/
noncomputable def f23_E (N : Nat) : Env := ⟨Try.prog, N, [f38_con N], [(0, ⟨[], [], [0, 1, 2], [], none⟩), (1, ⟨[], [], [0, 1, 2, 6, 7], [6, 7], none⟩), (2, ⟨[], [], [0, 1, 2, 6, 7], [6, 7], none⟩)], kdL []⟩
def f23_g (N : Nat) (v1 : (List Nat)) (v2 : (List Nat)) (v3 : Int) : Option (Nat × Bool) :=
  ((f38 N v1 v2 v3).bind fun v4 => (some (v4, true)))
def f23 (N : Nat) (v1 : (List Nat)) (v2 : (List Nat)) (v3 : Int) : Option (Nat × Bool) :=
  f23_g N v1 v2 v3
set_option maxRecDepth 100000
theorem f23_t (N : Nat) (v1 : (List Nat)) (v2 : (List Nat)) (v3 : Int) : evF (f23_E N) [37] Try.f23 [.k (.list .float), .k (.list .float), .k (.int .i64)] [.float, .bool] (v1, v2, v3, ()) = f23 N v1 v2 v3 := by
  exact (show evF (f23_E N) [37] Try.f23 [.k (.list .float), .k (.list .float), .k (.int .i64)] [.float, .bool] (v1, v2, v3, ()) = f23_g N v1 v2 v3 from by kernel_rfl).trans (by rfl)
noncomputable def f23_con (N : Nat) : Con := ⟨23, [.k (.list .float), .k (.list .float), .k (.int .i64)], [.float, .bool], fun x => f23 N x.1 x.2.1 x.2.2.1⟩
theorem f23_s (N : Nat) : (f23_con N).Sound Try.prog :=
  Con.sound_of (c := f23_con N) (E := (f23_E N)) (idle := [37]) Try.func23 (by kernel_rfl) (by kernel_rfl) (allCons (f38_s N) allNil) (allCons (idle_of Try.func37 (by kernel_rfl)) allNil) (fun x y h => (f23_t N x.1 x.2.1 x.2.2.1).trans h)
/-- pub-orthodrome/laws.FnKCompare -/
noncomputable def f8_E (N : Nat) : Env := ⟨Try.prog, N, [f22_con N, f23_con N], [(0, ⟨[], [], [0, 1, 2], [], none⟩), (1, ⟨[], [], [0, 1, 2], [], none⟩), (2, ⟨[], [], [0, 1, 2, 16], [], none⟩), (3, ⟨[], [], [0, 1, 2], [], none⟩), (4, ⟨[], [], [0, 1, 2, 31], [], some N⟩), (5, ⟨[], [], [0, 1, 2], [], none⟩), (6, ⟨[], [], [0, 1, 2, 7, 8], [], none⟩)], kdL [(29, (.list .float))]⟩
def f8_g0 (N : Nat) (v1 : (List Nat)) (v2 : (List Nat)) (v3 : Int) : Option (Bool) :=
  (some true)
def f8_j0 (N : Nat) (v1 : (List Nat)) (v2 : (List Nat)) (v3 : Int) : Option (Bool) :=
  gate N (f8_g0 N v1 v2 v3)
def f8_g (N : Nat) (v1 : (List Nat)) (v2 : (List Nat)) (v3 : Int) (c0 : (List Nat) → (List Nat) → Int → Option (Bool)) : Option (Bool) :=
  (bif (decide (((v1.length : Int) : Int) > 2147483647)) then (some true) else (bif (decide (((v2.length : Int) : Int) > 2147483647)) then (some true) else ((f22 N ([v1] : List (List Nat)) v2).bind fun v4 => bif (!v4) then (c0 v1 v2 v3) else (bif (decide ((v3 : Int) < 0)) then (c0 v1 v2 v3) else (gate N (bif (decide ((v3 : Int) ≥ (v1.length : Int))) then (some true) else ((f23 N v1 v2 v3).bind fun v5 => (bif v5.2 then ((nth v1 v3).bind fun v6 => (nth v2 v3).bind fun v7 => (Ieee.double.sub v6 v7).bind fun v8 => (some (feq v5.1 v8))) else (some false)))))))))
def f8 (N : Nat) (v1 : (List Nat)) (v2 : (List Nat)) (v3 : Int) : Option (Bool) :=
  f8_g N v1 v2 v3 (f8_j0 N)
set_option maxRecDepth 100000
noncomputable def f8_e0 (N : Nat) (v1 : (List Nat)) (v2 : (List Nat)) (v3 : Int) : Option (HR [.bool]) :=
  gate N (evC (f8_E N) (codeAt (bodyOf Try.f8) [1, 1, 0, 1]) ⟨[(0, .pv (.list .float) v1), (1, .pv (.list .float) v2), (2, .pv (.int .i64) v3), (31, .pv .bool true)], [], []⟩ (kSeq (advOf (f8_E N) (codeAt (bodyOf Try.f8) [1, 1, 1])) (evC (f8_E N) (codeAt (bodyOf Try.f8) [1, 1, 1])) (kEnd (f8_E N) [] Try.f8.results.toList [.bool])))
theorem f8_t0 (N : Nat) (v1 : (List Nat)) (v2 : (List Nat)) (v3 : Int) : f8_e0 N v1 v2 v3 = f8_j0 N v1 v2 v3 := by
  exact (congrArg (gate N) (show evC (f8_E N) (codeAt (bodyOf Try.f8) [1, 1, 0, 1]) ⟨[(0, .pv (.list .float) v1), (1, .pv (.list .float) v2), (2, .pv (.int .i64) v3), (31, .pv .bool true)], [], []⟩ (kSeq (advOf (f8_E N) (codeAt (bodyOf Try.f8) [1, 1, 1])) (evC (f8_E N) (codeAt (bodyOf Try.f8) [1, 1, 1])) (kEnd (f8_E N) [] Try.f8.results.toList [.bool])) = f8_g0 N v1 v2 v3 from by kernel_rfl)).trans (by rfl)
theorem f8_t (N : Nat) (v1 : (List Nat)) (v2 : (List Nat)) (v3 : Int) : evF (f8_E N) [] Try.f8 [.k (.list .float), .k (.list .float), .k (.int .i64)] [.bool] (v1, v2, v3, ()) = f8 N v1 v2 v3 := by
  have h0 : (f8_e0 N) = (f8_j0 N) := by funext v1 v2 v3; exact f8_t0 N v1 v2 v3
  exact (show evF (f8_E N) [] Try.f8 [.k (.list .float), .k (.list .float), .k (.int .i64)] [.bool] (v1, v2, v3, ()) = f8_g N v1 v2 v3 (f8_e0 N) from by kernel_rfl).trans (by rw [h0]; rfl)
noncomputable def f8_con (N : Nat) : Con := ⟨8, [.k (.list .float), .k (.list .float), .k (.int .i64)], [.bool], fun x => f8 N x.1 x.2.1 x.2.2.1⟩
theorem f8_s (N : Nat) : (f8_con N).Sound Try.prog :=
  Con.sound_of (c := f8_con N) (E := (f8_E N)) (idle := []) Try.func8 (by kernel_rfl) (by kernel_rfl) (allCons (f22_s N) (allCons (f23_s N) allNil)) allNil (fun x y h => (f8_t N x.1 x.2.1 x.2.2.1).trans h)
end Go.Proofs.Ytcppjdjimmnlkaa.FKCompare
