import Derived.Test.YtlbbldhbggfoaaaProg
import Derived.Test.YtlbbldhbggfoaaaAv16
import Derived.Test.YtlbbldhbggfoaaaAv19
import Derived.Test.YtlbbldhbggfoaaaAv20
import Derived.Test.YtlbbldhbggfoaaaAv21
import Derived.Test.YtlbbldhbggfoaaaAv25
import Derived.Test.YtlbbldhbggfoaaaAv31
import Derived.Test.YtlbbldhbggfoaaaAv32
import Derived.KernelRfl
set_option linter.unusedVariables false
namespace Go.Proofs.Ytlbbldhbggfoaaa.D2
open Go Go.Av
noncomputable section
/-- pub-orthodrome/laws.off2 -/
noncomputable def laws_off2_b_E (N : Nat) : Env := ⟨Try.prog, N, [], [(0, ⟨[], [], [], [], [0], [], none⟩), (1, ⟨[], [], [], [], [1], [1], none⟩)], kdL [(22, .float)], [], [], []⟩
def laws_off2_b_g (N : Nat) (v1 : (Nat × (Nat × Unit))) : Option ((List Nat)) :=
  (some ([v1.1, v1.2.1] : List Nat))
def laws_off2_b (N : Nat) (v1 : (Nat × (Nat × Unit))) : Option ((List Nat)) :=
  laws_off2_b_g N v1
set_option maxRecDepth 100000
theorem laws_off2_b_t (N : Nat) (v1 : (Nat × (Nat × Unit))) : evF (laws_off2_b_E N) [] Try.f20 [.k (.pair .float (.pair .float .unit))] [(.list .float)] (v1, ()) = laws_off2_b N v1 := by
  exact (show evF (laws_off2_b_E N) [] Try.f20 [.k (.pair .float (.pair .float .unit))] [(.list .float)] (v1, ()) = laws_off2_b_g N v1 from by kernel_rfl).trans (by rfl)
noncomputable def laws_off2_b_con (N : Nat) : Con := ⟨20, [.k (.pair .float (.pair .float .unit))], [(.list .float)], fun x => laws_off2_b N x.1⟩
theorem laws_off2_b_s (N : Nat) : (laws_off2_b_con N).Sound Try.prog [] :=
  Con.sound_of (c := laws_off2_b_con N) (E := (laws_off2_b_E N)) (idle := []) Try.func20 (by kernel_rfl) (by kernel_rfl) ⟨allNil, allNil, rfl⟩ allNil (fun x y h => (laws_off2_b_t N x.1).trans h)
/-- math.archTrunc -/
def math_archTrunc (N : Nat) (v1 : Nat) : Option Nat := fwhole .zero v1
noncomputable def math_archTrunc_con (N : Nat) : Con := ⟨93, [.k .float], [.float], fun x => math_archTrunc N x.1⟩
theorem math_archTrunc_s (N : Nat) : (math_archTrunc_con N).Sound Try.prog [] := whole_of (name := "math.archTrunc") Try.func93 (by kernel_rfl) (by kernel_rfl) (by kernel_rfl) (by kernel_rfl)
/-- math.Trunc -/
noncomputable def math_Trunc_E (N : Nat) : Env := ⟨Try.prog, N, [math_archTrunc_con N], [(0, ⟨[], [], [], [], [0], [], none⟩), (1, ⟨[], [], [], [], [0], [], none⟩), (2, ⟨[], [], [], [], [0], [], none⟩)], kdL [], [], [], []⟩
def math_Trunc_g (N : Nat) (v1 : Nat) : Option (Nat) :=
  ((math_archTrunc N v1).bind fun v2 => (some v2))
def math_Trunc (N : Nat) (v1 : Nat) : Option (Nat) :=
  math_Trunc_g N v1
set_option maxRecDepth 100000
theorem math_Trunc_t (N : Nat) (v1 : Nat) : evF (math_Trunc_E N) [] Try.f58 [.k .float] [.float] (v1, ()) = math_Trunc N v1 := by
  exact (show evF (math_Trunc_E N) [] Try.f58 [.k .float] [.float] (v1, ()) = math_Trunc_g N v1 from by kernel_rfl).trans (by rfl)
noncomputable def math_Trunc_con (N : Nat) : Con := ⟨58, [.k .float], [.float], fun x => math_Trunc N x.1⟩
theorem math_Trunc_s (N : Nat) : (math_Trunc_con N).Sound Try.prog [] :=
  Con.sound_of (c := math_Trunc_con N) (E := (math_Trunc_E N)) (idle := []) Try.func58 (by kernel_rfl) (by kernel_rfl) ⟨(allCons (math_archTrunc_s N) allNil), allNil, rfl⟩ allNil (fun x y h => (math_Trunc_t N x.1).trans h)
/-- pub-orthodrome/spec.Grid -/
noncomputable def spec_Grid_E (N : Nat) : Env := ⟨Try.prog, N, [math_Trunc_con N], [(0, ⟨[], [], [], [], [0, 1, 2], [], none⟩), (1, ⟨[], [], [], [], [0, 1, 2], [], none⟩), (2, ⟨[], [], [], [], [1, 2, 11, 12, 13], [], none⟩), (3, ⟨[], [], [], [], [1, 2, 11, 12, 13], [], none⟩), (4, ⟨[], [], [], [], [1, 2, 8, 11, 12, 13], [], none⟩), (5, ⟨[], [], [], [], [1, 2, 8, 11, 12, 13, 20], [], none⟩), (6, ⟨[], [], [], [], [1, 2, 8, 11, 12, 13], [], none⟩), (7, ⟨[], [], [], [], [1, 2, 11, 12, 13, 21, 22, 23], [], none⟩), (8, ⟨[], [], [], [], [1, 2, 11, 12, 13, 21, 22, 23], [], none⟩), (9, ⟨[], [], [], [], [1, 2, 10, 11, 12, 13, 21, 22, 23], [], none⟩), (10, ⟨[], [], [], [], [1, 2, 11, 12, 13, 21, 22, 23, 42], [], some N⟩), (11, ⟨[], [], [], [], [1, 2, 11, 12, 13, 21, 22, 23], [], none⟩), (12, ⟨[], [], [], [], [1, 2, 11, 12, 13], [], none⟩), (13, ⟨[], [], [], [], [1], [], none⟩)], kdL [], [], [], []⟩
def spec_Grid_g2 (N : Nat) (v2 : Int) (v3 : Nat) (v1 : (List (List Nat))) (v10 : Int) (v11 : (List Nat)) (v14 : Int) (r1 : Int → Option (Bool)) (r0 : Int → Option (Bool)) : Option (Bool) :=
  (some false)
def spec_Grid_j2 (N : Nat) (r1 : Int → Option (Bool)) (r0 : Int → Option (Bool)) (v2 : Int) (v3 : Nat) (v1 : (List (List Nat))) (v10 : Int) (v11 : (List Nat)) (v14 : Int) : Option (Bool) :=
  gate N (spec_Grid_g2 N v2 v3 v1 v10 v11 v14 r1 r0)
def spec_Grid_g1 (N : Nat) (v2 : Int) (v3 : Nat) (v1 : (List (List Nat))) (v10 : Int) (v11 : (List Nat)) (c2 : Int → Option (Bool)) (r1 : Int → Option (Bool)) (r0 : Int → Option (Bool)) (v14 : Int) : Option (Bool) :=
  (bif (decide ((v14 : Int) < (v11.length : Int))) then ((nth v11 v14).bind fun v15 => (bif (fge v15 (fneg v3)) then (bif (!(fle v15 v3)) then (c2 v14) else ((math_Trunc N v15).bind fun v16 => (gate N (bif (fne v15 v16) then (some false) else ((r1 (IntKind.i64.wrap (v14 + 1)))))))) else (c2 v14))) else ((r0 (IntKind.i64.wrap (v10 + 1)))))
def spec_Grid_l1 (N : Nat) (r0 : Int → Option (Bool)) (v2 : Int) (v3 : Nat) (v1 : (List (List Nat))) : Nat → Int → (List Nat) → Int → Option (Bool)
  | 0, _, _, _ => none
  | n + 1, v10, v11, v14 => spec_Grid_g1 N v2 v3 v1 v10 v11 (spec_Grid_j2 N (spec_Grid_l1 N r0 v2 v3 v1 n v10 v11) r0 v2 v3 v1 v10 v11) (spec_Grid_l1 N r0 v2 v3 v1 n v10 v11) r0 v14
def spec_Grid_g0 (N : Nat) (v2 : Int) (v3 : Nat) (v1 : (List (List Nat))) (c1 : Int → (List Nat) → Int → Option (Bool)) (r0 : Int → Option (Bool)) (v10 : Int) : Option (Bool) :=
  (bif (decide ((v10 : Int) < (v1.length : Int))) then ((nth v1 v10).bind fun v11 => (bif ((v11.length : Int) != v2) then (some false) else ((c1 v10 v11 0)))) else (some (decide ((v2 : Int) > 0))))
def spec_Grid_l0 (N : Nat) : Nat → Int → Nat → (List (List Nat)) → Int → Option (Bool)
  | 0, _, _, _, _ => none
  | n + 1, v2, v3, v1, v10 => spec_Grid_g0 N v2 v3 v1 (spec_Grid_l1 N (spec_Grid_l0 N n v2 v3 v1) v2 v3 v1 N) (spec_Grid_l0 N n v2 v3 v1) v10
def spec_Grid_g (N : Nat) (v1 : (List (List Nat))) (v2 : Int) (v3 : Nat) (c0 : Int → Nat → (List (List Nat)) → Int → Option (Bool)) : Option (Bool) :=
  ((c0 v2 v3 v1 0))
def spec_Grid (N : Nat) (v1 : (List (List Nat))) (v2 : Int) (v3 : Nat) : Option (Bool) :=
  spec_Grid_g N v1 v2 v3 (spec_Grid_l0 N N)
set_option maxRecDepth 100000
noncomputable def spec_Grid_e2 (N : Nat) (m1 : Nat) (m0 : Nat) (v2 : Int) (v3 : Nat) (v1 : (List (List Nat))) (v10 : Int) (v11 : (List Nat)) (v14 : Int) : Option (HR [.bool]) :=
  gate N (evC (spec_Grid_E N) (codeAt (bodyOf Try.f21) [1, 0, 1, 0, 0, 1, 1, 0, 0, 1, 1, 1, 0, 0, 1, 1, 0, 0, 1, 1]) ⟨[(1, .pv (.int .i64) v2), (2, .pv .float v3), (11, .pv (.list (.list .float)) v1), (12, .pv (.int .i64) (v1.length : Int)), (13, .pv (.int .i64) v10), (21, .pv (.list .float) v11), (22, .pv (.int .i64) (v11.length : Int)), (23, .pv (.int .i64) v14), (42, .pv .bool true)], [], []⟩ (kBlock 3 (kSeq (advOf (spec_Grid_E N) (codeAt (bodyOf Try.f21) [1, 0, 1, 0, 0, 1, 1, 0, 0, 1, 1, 1, 0, 0, 1, 1, 1])) (evC (spec_Grid_E N) (codeAt (bodyOf Try.f21) [1, 0, 1, 0, 0, 1, 1, 0, 0, 1, 1, 1, 0, 0, 1, 1, 1])) (kSeq (advOf (spec_Grid_E N) (codeAt (bodyOf Try.f21) [1, 0, 1, 0, 0, 1, 1, 0, 0, 1, 1, 1, 0, 0])) (fun st K => loopN (advOf (spec_Grid_E N) (codeAt (bodyOf Try.f21) [1, 0, 1, 0, 0, 1, 1, 0, 0, 1, 1, 1, 0, 0])) (evC (spec_Grid_E N) (codeAt (bodyOf Try.f21) [1, 0, 1, 0, 0, 1, 1, 0, 0, 1, 1, 1, 0, 0])) m1 st K) (kBlock 2 (kBlock 1 (kSeq (advOf (spec_Grid_E N) (codeAt (bodyOf Try.f21) [1, 0, 1, 0, 0, 1, 1, 1])) (evC (spec_Grid_E N) (codeAt (bodyOf Try.f21) [1, 0, 1, 0, 0, 1, 1, 1])) (kSeq (advOf (spec_Grid_E N) (codeAt (bodyOf Try.f21) [1, 0, 1, 0, 0])) (fun st K => loopN (advOf (spec_Grid_E N) (codeAt (bodyOf Try.f21) [1, 0, 1, 0, 0])) (evC (spec_Grid_E N) (codeAt (bodyOf Try.f21) [1, 0, 1, 0, 0])) m0 st K) (kBlock 0 (kSeq (advOf (spec_Grid_E N) (codeAt (bodyOf Try.f21) [1, 1])) (evC (spec_Grid_E N) (codeAt (bodyOf Try.f21) [1, 1])) (kEnd (spec_Grid_E N) [] Try.f21.results.toList [.bool])))))))))))
noncomputable def spec_Grid_e1 (N : Nat) (m0 : Nat) (v2 : Int) (v3 : Nat) (v1 : (List (List Nat))) (n : Nat) (v10 : Int) (v11 : (List Nat)) (v14 : Int) : Option (HR [.bool]) :=
  loopN (advOf (spec_Grid_E N) (codeAt (bodyOf Try.f21) [1, 0, 1, 0, 0, 1, 1, 0, 0, 1, 1, 1, 0, 0])) (evC (spec_Grid_E N) (codeAt (bodyOf Try.f21) [1, 0, 1, 0, 0, 1, 1, 0, 0, 1, 1, 1, 0, 0])) n ⟨[(1, .pv (.int .i64) v2), (2, .pv .float v3), (11, .pv (.list (.list .float)) v1), (12, .pv (.int .i64) (v1.length : Int)), (13, .pv (.int .i64) v10), (21, .pv (.list .float) v11), (22, .pv (.int .i64) (v11.length : Int)), (23, .pv (.int .i64) v14)], [], []⟩ (kBlock 2 (kBlock 1 (kSeq (advOf (spec_Grid_E N) (codeAt (bodyOf Try.f21) [1, 0, 1, 0, 0, 1, 1, 1])) (evC (spec_Grid_E N) (codeAt (bodyOf Try.f21) [1, 0, 1, 0, 0, 1, 1, 1])) (kSeq (advOf (spec_Grid_E N) (codeAt (bodyOf Try.f21) [1, 0, 1, 0, 0])) (fun st K => loopN (advOf (spec_Grid_E N) (codeAt (bodyOf Try.f21) [1, 0, 1, 0, 0])) (evC (spec_Grid_E N) (codeAt (bodyOf Try.f21) [1, 0, 1, 0, 0])) m0 st K) (kBlock 0 (kSeq (advOf (spec_Grid_E N) (codeAt (bodyOf Try.f21) [1, 1])) (evC (spec_Grid_E N) (codeAt (bodyOf Try.f21) [1, 1])) (kEnd (spec_Grid_E N) [] Try.f21.results.toList [.bool])))))))
noncomputable def spec_Grid_e0 (N : Nat) (n : Nat) (v2 : Int) (v3 : Nat) (v1 : (List (List Nat))) (v10 : Int) : Option (HR [.bool]) :=
  loopN (advOf (spec_Grid_E N) (codeAt (bodyOf Try.f21) [1, 0, 1, 0, 0])) (evC (spec_Grid_E N) (codeAt (bodyOf Try.f21) [1, 0, 1, 0, 0])) n ⟨[(1, .pv (.int .i64) v2), (2, .pv .float v3), (11, .pv (.list (.list .float)) v1), (12, .pv (.int .i64) (v1.length : Int)), (13, .pv (.int .i64) v10)], [], []⟩ (kBlock 0 (kSeq (advOf (spec_Grid_E N) (codeAt (bodyOf Try.f21) [1, 1])) (evC (spec_Grid_E N) (codeAt (bodyOf Try.f21) [1, 1])) (kEnd (spec_Grid_E N) [] Try.f21.results.toList [.bool])))
theorem spec_Grid_t2 (N : Nat) (m1 : Nat) (m0 : Nat) (v2 : Int) (v3 : Nat) (v1 : (List (List Nat))) (v10 : Int) (v11 : (List Nat)) (v14 : Int) : spec_Grid_e2 N m1 m0 v2 v3 v1 v10 v11 v14 = spec_Grid_j2 N (spec_Grid_e1 N m0 v2 v3 v1 m1 v10 v11) (spec_Grid_e0 N m0 v2 v3 v1) v2 v3 v1 v10 v11 v14 := by
  exact (congrArg (gate N) (show evC (spec_Grid_E N) (codeAt (bodyOf Try.f21) [1, 0, 1, 0, 0, 1, 1, 0, 0, 1, 1, 1, 0, 0, 1, 1, 0, 0, 1, 1]) ⟨[(1, .pv (.int .i64) v2), (2, .pv .float v3), (11, .pv (.list (.list .float)) v1), (12, .pv (.int .i64) (v1.length : Int)), (13, .pv (.int .i64) v10), (21, .pv (.list .float) v11), (22, .pv (.int .i64) (v11.length : Int)), (23, .pv (.int .i64) v14), (42, .pv .bool true)], [], []⟩ (kBlock 3 (kSeq (advOf (spec_Grid_E N) (codeAt (bodyOf Try.f21) [1, 0, 1, 0, 0, 1, 1, 0, 0, 1, 1, 1, 0, 0, 1, 1, 1])) (evC (spec_Grid_E N) (codeAt (bodyOf Try.f21) [1, 0, 1, 0, 0, 1, 1, 0, 0, 1, 1, 1, 0, 0, 1, 1, 1])) (kSeq (advOf (spec_Grid_E N) (codeAt (bodyOf Try.f21) [1, 0, 1, 0, 0, 1, 1, 0, 0, 1, 1, 1, 0, 0])) (fun st K => loopN (advOf (spec_Grid_E N) (codeAt (bodyOf Try.f21) [1, 0, 1, 0, 0, 1, 1, 0, 0, 1, 1, 1, 0, 0])) (evC (spec_Grid_E N) (codeAt (bodyOf Try.f21) [1, 0, 1, 0, 0, 1, 1, 0, 0, 1, 1, 1, 0, 0])) m1 st K) (kBlock 2 (kBlock 1 (kSeq (advOf (spec_Grid_E N) (codeAt (bodyOf Try.f21) [1, 0, 1, 0, 0, 1, 1, 1])) (evC (spec_Grid_E N) (codeAt (bodyOf Try.f21) [1, 0, 1, 0, 0, 1, 1, 1])) (kSeq (advOf (spec_Grid_E N) (codeAt (bodyOf Try.f21) [1, 0, 1, 0, 0])) (fun st K => loopN (advOf (spec_Grid_E N) (codeAt (bodyOf Try.f21) [1, 0, 1, 0, 0])) (evC (spec_Grid_E N) (codeAt (bodyOf Try.f21) [1, 0, 1, 0, 0])) m0 st K) (kBlock 0 (kSeq (advOf (spec_Grid_E N) (codeAt (bodyOf Try.f21) [1, 1])) (evC (spec_Grid_E N) (codeAt (bodyOf Try.f21) [1, 1])) (kEnd (spec_Grid_E N) [] Try.f21.results.toList [.bool])))))))))) = spec_Grid_g2 N v2 v3 v1 v10 v11 v14 (spec_Grid_e1 N m0 v2 v3 v1 m1 v10 v11) (spec_Grid_e0 N m0 v2 v3 v1) from by kernel_rfl)).trans (by rfl)
theorem spec_Grid_t1 (N : Nat) (m0 : Nat) (v2 : Int) (v3 : Nat) (v1 : (List (List Nat))) : ∀ (n : Nat) (v10 : Int) (v11 : (List Nat)) (v14 : Int), spec_Grid_e1 N m0 v2 v3 v1 n v10 v11 v14 = spec_Grid_l1 N (spec_Grid_e0 N m0 v2 v3 v1) v2 v3 v1 n v10 v11 v14
  | 0, _, _, _ => rfl
  | n + 1, v10, v11, v14 => by
    have h2 : (spec_Grid_e2 N n m0 v2 v3 v1 v10 v11) = (spec_Grid_j2 N (spec_Grid_e1 N m0 v2 v3 v1 n v10 v11) (spec_Grid_e0 N m0 v2 v3 v1) v2 v3 v1 v10 v11) := by funext v14; exact spec_Grid_t2 N n m0 v2 v3 v1 v10 v11 v14
    have h : spec_Grid_e1 N m0 v2 v3 v1 n v10 v11 = spec_Grid_l1 N (spec_Grid_e0 N m0 v2 v3 v1) v2 v3 v1 n v10 v11 := by funext v14; exact spec_Grid_t1 N m0 v2 v3 v1 n v10 v11 v14
    exact (show spec_Grid_e1 N m0 v2 v3 v1 (n + 1) v10 v11 v14 = spec_Grid_g1 N v2 v3 v1 v10 v11 (spec_Grid_e2 N n m0 v2 v3 v1 v10 v11) (spec_Grid_e1 N m0 v2 v3 v1 n v10 v11) (spec_Grid_e0 N m0 v2 v3 v1) v14 from by kernel_rfl).trans (by rw [h2, h]; rfl)
theorem spec_Grid_t0 (N : Nat) : ∀ (n : Nat) (v2 : Int) (v3 : Nat) (v1 : (List (List Nat))) (v10 : Int), spec_Grid_e0 N n v2 v3 v1 v10 = spec_Grid_l0 N n v2 v3 v1 v10
  | 0, _, _, _, _ => rfl
  | n + 1, v2, v3, v1, v10 => by
    have h1 : (spec_Grid_e1 N n v2 v3 v1 N) = (spec_Grid_l1 N (spec_Grid_e0 N n v2 v3 v1) v2 v3 v1 N) := by funext v10 v11 v14; exact spec_Grid_t1 N n v2 v3 v1 N v10 v11 v14
    have h : spec_Grid_e0 N n v2 v3 v1 = spec_Grid_l0 N n v2 v3 v1 := by funext v10; exact spec_Grid_t0 N n v2 v3 v1 v10
    exact (show spec_Grid_e0 N (n + 1) v2 v3 v1 v10 = spec_Grid_g0 N v2 v3 v1 (spec_Grid_e1 N n v2 v3 v1 N) (spec_Grid_e0 N n v2 v3 v1) v10 from by kernel_rfl).trans (by rw [h1, h]; rfl)
theorem spec_Grid_t (N : Nat) (v1 : (List (List Nat))) (v2 : Int) (v3 : Nat) : evF (spec_Grid_E N) [] Try.f21 [.k (.list (.list .float)), .k (.int .i64), .k .float] [.bool] (v1, v2, v3, ()) = spec_Grid N v1 v2 v3 := by
  have h0 : (spec_Grid_e0 N N) = (spec_Grid_l0 N N) := by funext v2 v3 v1 v10; exact spec_Grid_t0 N N v2 v3 v1 v10
  exact (show evF (spec_Grid_E N) [] Try.f21 [.k (.list (.list .float)), .k (.int .i64), .k .float] [.bool] (v1, v2, v3, ()) = spec_Grid_g N v1 v2 v3 (spec_Grid_e0 N N) from by kernel_rfl).trans (by rw [h0]; rfl)
noncomputable def spec_Grid_con (N : Nat) : Con := ⟨21, [.k (.list (.list .float)), .k (.int .i64), .k .float], [.bool], fun x => spec_Grid N x.1 x.2.1 x.2.2.1⟩
theorem spec_Grid_s (N : Nat) : (spec_Grid_con N).Sound Try.prog [] :=
  Con.sound_of (c := spec_Grid_con N) (E := (spec_Grid_E N)) (idle := []) Try.func21 (by kernel_rfl) (by kernel_rfl) ⟨(allCons (math_Trunc_s N) allNil), allNil, rfl⟩ allNil (fun x y h => (spec_Grid_t N x.1 x.2.1 x.2.2.1).trans h)
/-- pub-orthodrome/spec.SamePoint -/
noncomputable def spec_SamePoint_E (N : Nat) : Env := ⟨Try.prog, N, [], [(0, ⟨[], [], [], [], [0, 1], [], none⟩), (1, ⟨[], [], [], [], [0, 1], [], none⟩), (2, ⟨[], [], [], [], [0, 1, 11], [], none⟩), (3, ⟨[], [], [], [], [0, 1], [], none⟩), (4, ⟨[], [], [], [], [1, 12, 13, 14], [], none⟩), (5, ⟨[], [], [], [], [1, 12, 13, 14], [], none⟩), (6, ⟨[], [], [], [], [1, 5, 6, 12, 13, 14], [], none⟩), (7, ⟨[], [], [], [], [1, 12, 13, 14, 24], [], none⟩), (8, ⟨[], [], [], [], [1, 12, 13, 14], [], none⟩), (9, ⟨[], [], [], [], [], [], none⟩)], kdL [], [], [], []⟩
def spec_SamePoint_g0 (N : Nat) (v2 : (List Nat)) (v1 : (List Nat)) (r0 : Int → Option (Bool)) (v5 : Int) : Option (Bool) :=
  (bif (decide ((v5 : Int) < (v1.length : Int))) then ((nth v1 v5).bind fun v6 => ((nth v2 v5).bind fun v7 => (bif (fne v6 v7) then (some false) else ((r0 (IntKind.i64.wrap (v5 + 1))))))) else (some true))
def spec_SamePoint_l0 (N : Nat) : Nat → (List Nat) → (List Nat) → Int → Option (Bool)
  | 0, _, _, _ => none
  | n + 1, v2, v1, v5 => spec_SamePoint_g0 N v2 v1 (spec_SamePoint_l0 N n v2 v1) v5
def spec_SamePoint_g (N : Nat) (v1 : (List Nat)) (v2 : (List Nat)) (c0 : (List Nat) → (List Nat) → Int → Option (Bool)) : Option (Bool) :=
  (bif ((v1.length : Int) != (v2.length : Int)) then (some false) else ((c0 v2 v1 0)))
def spec_SamePoint (N : Nat) (v1 : (List Nat)) (v2 : (List Nat)) : Option (Bool) :=
  spec_SamePoint_g N v1 v2 (spec_SamePoint_l0 N N)
set_option maxRecDepth 100000
noncomputable def spec_SamePoint_e0 (N : Nat) (n : Nat) (v2 : (List Nat)) (v1 : (List Nat)) (v5 : Int) : Option (HR [.bool]) :=
  loopN (advOf (spec_SamePoint_E N) (codeAt (bodyOf Try.f59) [1, 1, 0, 1, 0, 0])) (evC (spec_SamePoint_E N) (codeAt (bodyOf Try.f59) [1, 1, 0, 1, 0, 0])) n ⟨[(1, .pv (.list .float) v2), (12, .pv (.list .float) v1), (13, .pv (.int .i64) (v1.length : Int)), (14, .pv (.int .i64) v5)], [], []⟩ (kBlock 0 (kSeq (advOf (spec_SamePoint_E N) (codeAt (bodyOf Try.f59) [1, 1, 1])) (evC (spec_SamePoint_E N) (codeAt (bodyOf Try.f59) [1, 1, 1])) (kEnd (spec_SamePoint_E N) [] Try.f59.results.toList [.bool])))
theorem spec_SamePoint_t0 (N : Nat) : ∀ (n : Nat) (v2 : (List Nat)) (v1 : (List Nat)) (v5 : Int), spec_SamePoint_e0 N n v2 v1 v5 = spec_SamePoint_l0 N n v2 v1 v5
  | 0, _, _, _ => rfl
  | n + 1, v2, v1, v5 => by
    have h : spec_SamePoint_e0 N n v2 v1 = spec_SamePoint_l0 N n v2 v1 := by funext v5; exact spec_SamePoint_t0 N n v2 v1 v5
    exact (show spec_SamePoint_e0 N (n + 1) v2 v1 v5 = spec_SamePoint_g0 N v2 v1 (spec_SamePoint_e0 N n v2 v1) v5 from by kernel_rfl).trans (by rw [h]; rfl)
theorem spec_SamePoint_t (N : Nat) (v1 : (List Nat)) (v2 : (List Nat)) : evF (spec_SamePoint_E N) [] Try.f59 [.k (.list .float), .k (.list .float)] [.bool] (v1, v2, ()) = spec_SamePoint N v1 v2 := by
  have h0 : (spec_SamePoint_e0 N N) = (spec_SamePoint_l0 N N) := by funext v2 v1 v5; exact spec_SamePoint_t0 N N v2 v1 v5
  exact (show evF (spec_SamePoint_E N) [] Try.f59 [.k (.list .float), .k (.list .float)] [.bool] (v1, v2, ()) = spec_SamePoint_g N v1 v2 (spec_SamePoint_e0 N N) from by kernel_rfl).trans (by rw [h0]; rfl)
noncomputable def spec_SamePoint_con (N : Nat) : Con := ⟨59, [.k (.list .float), .k (.list .float)], [.bool], fun x => spec_SamePoint N x.1 x.2.1⟩
theorem spec_SamePoint_s (N : Nat) : (spec_SamePoint_con N).Sound Try.prog [] :=
  Con.sound_of (c := spec_SamePoint_con N) (E := (spec_SamePoint_E N)) (idle := []) Try.func59 (by kernel_rfl) (by kernel_rfl) ⟨allNil, allNil, rfl⟩ allNil (fun x y h => (spec_SamePoint_t N x.1 x.2.1).trans h)
/-- pub-orthodrome/spec.Differ -/
noncomputable def spec_Differ_E (N : Nat) : Env := ⟨Try.prog, N, [spec_SamePoint_con N], [(0, ⟨[], [], [], [], [0], [], none⟩), (1, ⟨[], [], [], [], [0], [], none⟩), (2, ⟨[], [], [], [], [0, 7, 8, 9], [], none⟩), (3, ⟨[], [], [], [], [0, 7, 8, 9], [], none⟩), (4, ⟨[], [], [], [], [0, 3, 4, 7, 8, 9], [], none⟩), (5, ⟨[], [], [], [], [0, 4, 7, 8, 9, 16, 17, 18], [], none⟩), (6, ⟨[], [], [], [], [0, 4, 7, 8, 9, 16, 17, 18], [], none⟩), (7, ⟨[], [], [], [], [0, 4, 6, 7, 8, 9, 16, 17, 18], [], none⟩), (8, ⟨[], [], [], [], [0, 4, 7, 8, 9, 16, 17, 18, 24], [], none⟩), (9, ⟨[], [], [], [], [0, 4, 7, 8, 9, 16, 17, 18], [], none⟩), (10, ⟨[], [], [], [], [0, 7, 8, 9], [], none⟩), (11, ⟨[], [], [], [], [], [], none⟩)], kdL [], [], [], []⟩
def spec_Differ_g1 (N : Nat) (v1 : (List (List Nat))) (v10 : (List Nat)) (v9 : Int) (v11 : (Nat × Nat)) (r1 : Int → Option (Bool)) (r0 : Int → Option (Bool)) (v14 : Int) : Option (Bool) :=
  (bif (decide ((v14 : Int) < (((v1.drop v11.1).take (v11.2 - v11.1)).length : Int))) then ((nth ((v1.drop v11.1).take (v11.2 - v11.1)) v14).bind fun v15 => ((spec_SamePoint N v10 v15).bind fun v16 => (bif v16 then (some false) else ((r1 (IntKind.i64.wrap (v14 + 1))))))) else ((r0 (IntKind.i64.wrap (v9 + 1)))))
def spec_Differ_l1 (N : Nat) (r0 : Int → Option (Bool)) (v1 : (List (List Nat))) : Nat → (List Nat) → Int → (Nat × Nat) → Int → Option (Bool)
  | 0, _, _, _, _ => none
  | n + 1, v10, v9, v11, v14 => spec_Differ_g1 N v1 v10 v9 v11 (spec_Differ_l1 N r0 v1 n v10 v9 v11) r0 v14
def spec_Differ_g0 (N : Nat) (v1 : (List (List Nat))) (c1 : (List Nat) → Int → (Nat × Nat) → Int → Option (Bool)) (r0 : Int → Option (Bool)) (v9 : Int) : Option (Bool) :=
  (bif (decide ((v9 : Int) < (v1.length : Int))) then ((nth v1 v9).bind fun v10 => ((chk2 0 v9 v1.length).bind fun v11 => ((c1 v10 v9 v11 0)))) else (some true))
def spec_Differ_l0 (N : Nat) : Nat → (List (List Nat)) → Int → Option (Bool)
  | 0, _, _ => none
  | n + 1, v1, v9 => spec_Differ_g0 N v1 (spec_Differ_l1 N (spec_Differ_l0 N n v1) v1 N) (spec_Differ_l0 N n v1) v9
def spec_Differ_g (N : Nat) (v1 : (List (List Nat))) (c0 : (List (List Nat)) → Int → Option (Bool)) : Option (Bool) :=
  ((c0 v1 0))
def spec_Differ (N : Nat) (v1 : (List (List Nat))) : Option (Bool) :=
  spec_Differ_g N v1 (spec_Differ_l0 N N)
set_option maxRecDepth 100000
noncomputable def spec_Differ_e1 (N : Nat) (m0 : Nat) (v1 : (List (List Nat))) (n : Nat) (v10 : (List Nat)) (v9 : Int) (v11 : (Nat × Nat)) (v14 : Int) : Option (HR [.bool]) :=
  loopN (advOf (spec_Differ_E N) (codeAt (bodyOf Try.f22) [1, 0, 1, 0, 0, 1, 1, 0, 0, 1, 1, 0, 0])) (evC (spec_Differ_E N) (codeAt (bodyOf Try.f22) [1, 0, 1, 0, 0, 1, 1, 0, 0, 1, 1, 0, 0])) n ⟨[(0, .pv (.list (.list .float)) v1), (4, .pv (.list .float) v10), (7, .pv (.list (.list .float)) v1), (8, .pv (.int .i64) (v1.length : Int)), (9, .pv (.int .i64) v9), (16, .pv (.list (.list .float)) ((v1.drop v11.1).take (v11.2 - v11.1))), (17, .pv (.int .i64) (((v1.drop v11.1).take (v11.2 - v11.1)).length : Int)), (18, .pv (.int .i64) v14)], [], []⟩ (kBlock 2 (kBlock 1 (kSeq (advOf (spec_Differ_E N) (codeAt (bodyOf Try.f22) [1, 0, 1, 0, 0, 1, 1, 1])) (evC (spec_Differ_E N) (codeAt (bodyOf Try.f22) [1, 0, 1, 0, 0, 1, 1, 1])) (kSeq (advOf (spec_Differ_E N) (codeAt (bodyOf Try.f22) [1, 0, 1, 0, 0])) (fun st K => loopN (advOf (spec_Differ_E N) (codeAt (bodyOf Try.f22) [1, 0, 1, 0, 0])) (evC (spec_Differ_E N) (codeAt (bodyOf Try.f22) [1, 0, 1, 0, 0])) m0 st K) (kBlock 0 (kSeq (advOf (spec_Differ_E N) (codeAt (bodyOf Try.f22) [1, 1])) (evC (spec_Differ_E N) (codeAt (bodyOf Try.f22) [1, 1])) (kEnd (spec_Differ_E N) [] Try.f22.results.toList [.bool])))))))
noncomputable def spec_Differ_e0 (N : Nat) (n : Nat) (v1 : (List (List Nat))) (v9 : Int) : Option (HR [.bool]) :=
  loopN (advOf (spec_Differ_E N) (codeAt (bodyOf Try.f22) [1, 0, 1, 0, 0])) (evC (spec_Differ_E N) (codeAt (bodyOf Try.f22) [1, 0, 1, 0, 0])) n ⟨[(0, .pv (.list (.list .float)) v1), (7, .pv (.list (.list .float)) v1), (8, .pv (.int .i64) (v1.length : Int)), (9, .pv (.int .i64) v9)], [], []⟩ (kBlock 0 (kSeq (advOf (spec_Differ_E N) (codeAt (bodyOf Try.f22) [1, 1])) (evC (spec_Differ_E N) (codeAt (bodyOf Try.f22) [1, 1])) (kEnd (spec_Differ_E N) [] Try.f22.results.toList [.bool])))
theorem spec_Differ_t1 (N : Nat) (m0 : Nat) (v1 : (List (List Nat))) : ∀ (n : Nat) (v10 : (List Nat)) (v9 : Int) (v11 : (Nat × Nat)) (v14 : Int), spec_Differ_e1 N m0 v1 n v10 v9 v11 v14 = spec_Differ_l1 N (spec_Differ_e0 N m0 v1) v1 n v10 v9 v11 v14
  | 0, _, _, _, _ => rfl
  | n + 1, v10, v9, v11, v14 => by
    have h : spec_Differ_e1 N m0 v1 n v10 v9 v11 = spec_Differ_l1 N (spec_Differ_e0 N m0 v1) v1 n v10 v9 v11 := by funext v14; exact spec_Differ_t1 N m0 v1 n v10 v9 v11 v14
    exact (show spec_Differ_e1 N m0 v1 (n + 1) v10 v9 v11 v14 = spec_Differ_g1 N v1 v10 v9 v11 (spec_Differ_e1 N m0 v1 n v10 v9 v11) (spec_Differ_e0 N m0 v1) v14 from by kernel_rfl).trans (by rw [h]; rfl)
theorem spec_Differ_t0 (N : Nat) : ∀ (n : Nat) (v1 : (List (List Nat))) (v9 : Int), spec_Differ_e0 N n v1 v9 = spec_Differ_l0 N n v1 v9
  | 0, _, _ => rfl
  | n + 1, v1, v9 => by
    have h1 : (spec_Differ_e1 N n v1 N) = (spec_Differ_l1 N (spec_Differ_e0 N n v1) v1 N) := by funext v10 v9 v11 v14; exact spec_Differ_t1 N n v1 N v10 v9 v11 v14
    have h : spec_Differ_e0 N n v1 = spec_Differ_l0 N n v1 := by funext v9; exact spec_Differ_t0 N n v1 v9
    exact (show spec_Differ_e0 N (n + 1) v1 v9 = spec_Differ_g0 N v1 (spec_Differ_e1 N n v1 N) (spec_Differ_e0 N n v1) v9 from by kernel_rfl).trans (by rw [h1, h]; rfl)
theorem spec_Differ_t (N : Nat) (v1 : (List (List Nat))) : evF (spec_Differ_E N) [] Try.f22 [.k (.list (.list .float))] [.bool] (v1, ()) = spec_Differ N v1 := by
  have h0 : (spec_Differ_e0 N N) = (spec_Differ_l0 N N) := by funext v1 v9; exact spec_Differ_t0 N N v1 v9
  exact (show evF (spec_Differ_E N) [] Try.f22 [.k (.list (.list .float))] [.bool] (v1, ()) = spec_Differ_g N v1 (spec_Differ_e0 N N) from by kernel_rfl).trans (by rw [h0]; rfl)
noncomputable def spec_Differ_con (N : Nat) : Con := ⟨22, [.k (.list (.list .float))], [.bool], fun x => spec_Differ N x.1⟩
theorem spec_Differ_s (N : Nat) : (spec_Differ_con N).Sound Try.prog [] :=
  Con.sound_of (c := spec_Differ_con N) (E := (spec_Differ_E N)) (idle := []) Try.func22 (by kernel_rfl) (by kernel_rfl) ⟨(allCons (spec_SamePoint_s N) allNil), allNil, rfl⟩ allNil (fun x y h => (spec_Differ_t N x.1).trans h)
/-- pub-orthodrome/spec.SquareN -/
noncomputable def spec_SquareN_E (N : Nat) : Env := ⟨Try.prog, N, [], [(0, ⟨[], [], [], [], [0, 1], [], none⟩), (1, ⟨[], [], [], [], [0, 1], [], none⟩), (2, ⟨[], [], [], [], [0, 1, 5], [], none⟩), (3, ⟨[], [], [], [], [1, 5, 8, 9, 10], [], none⟩), (4, ⟨[], [], [], [], [1, 5, 8, 9, 10], [], none⟩), (5, ⟨[], [], [], [], [1, 5, 6, 7, 8, 9, 10], [], none⟩), (6, ⟨[], [], [], [], [1, 5, 8, 9, 10], [], none⟩), (7, ⟨[], [], [], [], [5], [], none⟩)], kdL [], [], [], []⟩
def spec_SquareN_g0 (N : Nat) (v2 : (List Nat)) (v1 : (List Nat)) (r0 : Nat → Int → Option (Nat)) (v10 : Nat) (v11 : Int) : Option (Nat) :=
  (bif (decide ((v11 : Int) < (v1.length : Int))) then ((nth v1 v11).bind fun v12 => ((nth v2 v11).bind fun v13 => (Ieee.double.sub v12 v13).bind fun v14 => (nth v2 v11).bind fun v15 => (Ieee.double.sub v12 v15).bind fun v16 => (Ieee.double.mul v14 v16).bind fun v17 => (Ieee.double.add v10 v17).bind fun v18 => ((r0 v18 (IntKind.i64.wrap (v11 + 1)))))) else (some v10))
def spec_SquareN_l0 (N : Nat) : Nat → (List Nat) → (List Nat) → Nat → Int → Option (Nat)
  | 0, _, _, _, _ => none
  | n + 1, v2, v1, v10, v11 => spec_SquareN_g0 N v2 v1 (spec_SquareN_l0 N n v2 v1) v10 v11
def spec_SquareN_g (N : Nat) (v1 : (List Nat)) (v2 : (List Nat)) (c0 : (List Nat) → (List Nat) → Nat → Int → Option (Nat)) : Option (Nat) :=
  ((c0 v2 v1 0 0))
def spec_SquareN (N : Nat) (v1 : (List Nat)) (v2 : (List Nat)) : Option (Nat) :=
  spec_SquareN_g N v1 v2 (spec_SquareN_l0 N N)
set_option maxRecDepth 100000
noncomputable def spec_SquareN_e0 (N : Nat) (n : Nat) (v2 : (List Nat)) (v1 : (List Nat)) (v10 : Nat) (v11 : Int) : Option (HR [.float]) :=
  loopN (advOf (spec_SquareN_E N) (codeAt (bodyOf Try.f23) [1, 1, 0, 1, 0, 0])) (evC (spec_SquareN_E N) (codeAt (bodyOf Try.f23) [1, 1, 0, 1, 0, 0])) n ⟨[(1, .pv (.list .float) v2), (5, .pv .float v10), (8, .pv (.list .float) v1), (9, .pv (.int .i64) (v1.length : Int)), (10, .pv (.int .i64) v11)], [], []⟩ (kBlock 0 (kSeq (advOf (spec_SquareN_E N) (codeAt (bodyOf Try.f23) [1, 1, 1])) (evC (spec_SquareN_E N) (codeAt (bodyOf Try.f23) [1, 1, 1])) (kEnd (spec_SquareN_E N) [] Try.f23.results.toList [.float])))
theorem spec_SquareN_t0 (N : Nat) : ∀ (n : Nat) (v2 : (List Nat)) (v1 : (List Nat)) (v10 : Nat) (v11 : Int), spec_SquareN_e0 N n v2 v1 v10 v11 = spec_SquareN_l0 N n v2 v1 v10 v11
  | 0, _, _, _, _ => rfl
  | n + 1, v2, v1, v10, v11 => by
    have h : spec_SquareN_e0 N n v2 v1 = spec_SquareN_l0 N n v2 v1 := by funext v10 v11; exact spec_SquareN_t0 N n v2 v1 v10 v11
    exact (show spec_SquareN_e0 N (n + 1) v2 v1 v10 v11 = spec_SquareN_g0 N v2 v1 (spec_SquareN_e0 N n v2 v1) v10 v11 from by kernel_rfl).trans (by rw [h]; rfl)
theorem spec_SquareN_t (N : Nat) (v1 : (List Nat)) (v2 : (List Nat)) : evF (spec_SquareN_E N) [] Try.f23 [.k (.list .float), .k (.list .float)] [.float] (v1, v2, ()) = spec_SquareN N v1 v2 := by
  have h0 : (spec_SquareN_e0 N N) = (spec_SquareN_l0 N N) := by funext v2 v1 v10 v11; exact spec_SquareN_t0 N N v2 v1 v10 v11
  exact (show evF (spec_SquareN_E N) [] Try.f23 [.k (.list .float), .k (.list .float)] [.float] (v1, v2, ()) = spec_SquareN_g N v1 v2 (spec_SquareN_e0 N N) from by kernel_rfl).trans (by rw [h0]; rfl)
noncomputable def spec_SquareN_con (N : Nat) : Con := ⟨23, [.k (.list .float), .k (.list .float)], [.float], fun x => spec_SquareN N x.1 x.2.1⟩
theorem spec_SquareN_s (N : Nat) : (spec_SquareN_con N).Sound Try.prog [] :=
  Con.sound_of (c := spec_SquareN_con N) (E := (spec_SquareN_E N)) (idle := []) Try.func23 (by kernel_rfl) (by kernel_rfl) ⟨allNil, allNil, rfl⟩ allNil (fun x y h => (spec_SquareN_t N x.1 x.2.1).trans h)
/-- pub-orthodrome/laws.squareArea2 -/
noncomputable def laws_squareArea2_E (N : Nat) : Env := ⟨Try.prog, N, [], [(0, ⟨[], [], [], [], [0, 1, 2], [], none⟩), (1, ⟨[], [], [], [], [3, 4, 5], [3, 4, 5], none⟩), (2, ⟨[], [], [], [], [7], [], none⟩)], kdL [], [], [], []⟩
def laws_squareArea2_g (N : Nat) (v1 : (Nat × (Nat × Unit))) (v2 : (Nat × (Nat × Unit))) (v3 : (Nat × (Nat × Unit))) : Option (Nat) :=
  ((Ieee.double.sub v2.1 v1.1).bind fun v4 => (Ieee.double.sub v3.2.1 v1.2.1).bind fun v5 => (Ieee.double.mul v4 v5).bind fun v6 => (Ieee.double.sub v2.2.1 v1.2.1).bind fun v7 => (Ieee.double.sub v3.1 v1.1).bind fun v8 => (Ieee.double.mul v7 v8).bind fun v9 => (Ieee.double.sub v6 v9).bind fun v10 => ((Ieee.double.mul v10 v10).bind fun v11 => (Ieee.double.div v11 4616189618054758400).bind fun v12 => (some v12)))
def laws_squareArea2 (N : Nat) (v1 : (Nat × (Nat × Unit))) (v2 : (Nat × (Nat × Unit))) (v3 : (Nat × (Nat × Unit))) : Option (Nat) :=
  laws_squareArea2_g N v1 v2 v3
set_option maxRecDepth 100000
theorem laws_squareArea2_t (N : Nat) (v1 : (Nat × (Nat × Unit))) (v2 : (Nat × (Nat × Unit))) (v3 : (Nat × (Nat × Unit))) : evF (laws_squareArea2_E N) [] Try.f25 [.k (.pair .float (.pair .float .unit)), .k (.pair .float (.pair .float .unit)), .k (.pair .float (.pair .float .unit))] [.float] (v1, v2, v3, ()) = laws_squareArea2 N v1 v2 v3 := by
  exact (show evF (laws_squareArea2_E N) [] Try.f25 [.k (.pair .float (.pair .float .unit)), .k (.pair .float (.pair .float .unit)), .k (.pair .float (.pair .float .unit))] [.float] (v1, v2, v3, ()) = laws_squareArea2_g N v1 v2 v3 from by kernel_rfl).trans (by rfl)
noncomputable def laws_squareArea2_con (N : Nat) : Con := ⟨25, [.k (.pair .float (.pair .float .unit)), .k (.pair .float (.pair .float .unit)), .k (.pair .float (.pair .float .unit))], [.float], fun x => laws_squareArea2 N x.1 x.2.1 x.2.2.1⟩
theorem laws_squareArea2_s (N : Nat) : (laws_squareArea2_con N).Sound Try.prog [] :=
  Con.sound_of (c := laws_squareArea2_con N) (E := (laws_squareArea2_E N)) (idle := []) Try.func25 (by kernel_rfl) (by kernel_rfl) ⟨allNil, allNil, rfl⟩ allNil (fun x y h => (laws_squareArea2_t N x.1 x.2.1 x.2.2.1).trans h)
/-- math.sqrt -/
def math_sqrt (N : Nat) (v1 : Nat) : Option Nat := fsqrt v1
noncomputable def math_sqrt_con (N : Nat) : Con := ⟨60, [.k .float], [.float], fun x => math_sqrt N x.1⟩
theorem math_sqrt_s (N : Nat) : (math_sqrt_con N).Sound Try.prog [] := sqrt_of Try.func60 (by kernel_rfl) (by kernel_rfl) (by kernel_rfl) (by kernel_rfl)
/-- math.Sqrt -/
noncomputable def math_Sqrt_E (N : Nat) : Env := ⟨Try.prog, N, [math_sqrt_con N], [(0, ⟨[], [], [], [], [0], [], none⟩), (1, ⟨[], [], [], [], [0], [], none⟩)], kdL [], [], [], []⟩
def math_Sqrt_g (N : Nat) (v1 : Nat) : Option (Nat) :=
  ((math_sqrt N v1).bind fun v2 => (some v2))
def math_Sqrt (N : Nat) (v1 : Nat) : Option (Nat) :=
  math_Sqrt_g N v1
set_option maxRecDepth 100000
theorem math_Sqrt_t (N : Nat) (v1 : Nat) : evF (math_Sqrt_E N) [] Try.f24 [.k .float] [.float] (v1, ()) = math_Sqrt N v1 := by
  exact (show evF (math_Sqrt_E N) [] Try.f24 [.k .float] [.float] (v1, ()) = math_Sqrt_g N v1 from by kernel_rfl).trans (by rfl)
noncomputable def math_Sqrt_con (N : Nat) : Con := ⟨24, [.k .float], [.float], fun x => math_Sqrt N x.1⟩
theorem math_Sqrt_s (N : Nat) : (math_Sqrt_con N).Sound Try.prog [] :=
  Con.sound_of (c := math_Sqrt_con N) (E := (math_Sqrt_E N)) (idle := []) Try.func24 (by kernel_rfl) (by kernel_rfl) ⟨(allCons (math_sqrt_s N) allNil), allNil, rfl⟩ allNil (fun x y h => (math_Sqrt_t N x.1).trans h)
/-- math.Float64bits -/
def math_Float64bits (N : Nat) (v1 : Nat) : Option Int := some ((v1 : Nat) : Int)
noncomputable def math_Float64bits_con (N : Nat) : Con := ⟨51, [.k .float], [(.int .u64)], fun x => math_Float64bits N x.1⟩
theorem math_Float64bits_s (N : Nat) : (math_Float64bits_con N).Sound Try.prog [] := bits_of Try.func51 (by kernel_rfl) (by kernel_rfl) (by kernel_rfl) (by kernel_rfl)
/-- math.Float64frombits -/
def math_Float64frombits (N : Nat) (v1 : Int) : Option Nat := some (v1 : Int).toNat
noncomputable def math_Float64frombits_con (N : Nat) : Con := ⟨50, [.k (.int .u64)], [.float], fun x => math_Float64frombits N x.1⟩
theorem math_Float64frombits_s (N : Nat) : (math_Float64frombits_con N).Sound Try.prog [] := frombits_of Try.func50 (by kernel_rfl) (by kernel_rfl) (by kernel_rfl) (by kernel_rfl)
/-- math.Abs -/
noncomputable def math_Abs_E (N : Nat) : Env := ⟨Try.prog, N, [math_Float64bits_con N, math_Float64frombits_con N], [(0, ⟨[], [], [], [], [0], [], none⟩), (1, ⟨[], [], [], [], [0], [], none⟩)], kdL [], [], [], []⟩
def math_Abs_g (N : Nat) (v1 : Nat) : Option (Nat) :=
  ((math_Float64bits N v1).bind fun v2 => (math_Float64frombits N (bits .andNot .u64 v2 9223372036854775808)).bind fun v3 => (some v3))
def math_Abs (N : Nat) (v1 : Nat) : Option (Nat) :=
  math_Abs_g N v1
set_option maxRecDepth 100000
theorem math_Abs_t (N : Nat) (v1 : Nat) : evF (math_Abs_E N) [] Try.f14 [.k .float] [.float] (v1, ()) = math_Abs N v1 := by
  exact (show evF (math_Abs_E N) [] Try.f14 [.k .float] [.float] (v1, ()) = math_Abs_g N v1 from by kernel_rfl).trans (by rfl)
noncomputable def math_Abs_con (N : Nat) : Con := ⟨14, [.k .float], [.float], fun x => math_Abs N x.1⟩
theorem math_Abs_s (N : Nat) : (math_Abs_con N).Sound Try.prog [] :=
  Con.sound_of (c := math_Abs_con N) (E := (math_Abs_E N)) (idle := []) Try.func14 (by kernel_rfl) (by kernel_rfl) ⟨(allCons (math_Float64bits_s N) (allCons (math_Float64frombits_s N) allNil)), allNil, rfl⟩ allNil (fun x y h => (math_Abs_t N x.1).trans h)
/-- pub-orthodrome/impl.vec2 -/
noncomputable def impl_vec2_E (N : Nat) : Env := ⟨Try.prog, N, [], [(0, ⟨[], [], [], [], [0], [], none⟩), (1, ⟨[], [], [], [], [1, 2], [1, 2], none⟩)], kdL [], [], [], []⟩
def impl_vec2_g (N : Nat) (v1 : (Nat × (Nat × Unit))) : Option ((Nat × (Nat × Unit))) :=
  (some (v1.1, v1.2.1, ()))
def impl_vec2 (N : Nat) (v1 : (Nat × (Nat × Unit))) : Option ((Nat × (Nat × Unit))) :=
  impl_vec2_g N v1
set_option maxRecDepth 100000
theorem impl_vec2_t (N : Nat) (v1 : (Nat × (Nat × Unit))) : evF (impl_vec2_E N) [] Try.f48 [.k (.pair .float (.pair .float .unit))] [(.pair .float (.pair .float .unit))] (v1, ()) = impl_vec2 N v1 := by
  exact (show evF (impl_vec2_E N) [] Try.f48 [.k (.pair .float (.pair .float .unit))] [(.pair .float (.pair .float .unit))] (v1, ()) = impl_vec2_g N v1 from by kernel_rfl).trans (by rfl)
noncomputable def impl_vec2_con (N : Nat) : Con := ⟨48, [.k (.pair .float (.pair .float .unit))], [(.pair .float (.pair .float .unit))], fun x => impl_vec2 N x.1⟩
theorem impl_vec2_s (N : Nat) : (impl_vec2_con N).Sound Try.prog [] :=
  Con.sound_of (c := impl_vec2_con N) (E := (impl_vec2_E N)) (idle := []) Try.func48 (by kernel_rfl) (by kernel_rfl) ⟨allNil, allNil, rfl⟩ allNil (fun x y h => (impl_vec2_t N x.1).trans h)
/-- pub-orthodrome/pub/gonum/spatial/r2.Sub -/
noncomputable def r2_Sub_E (N : Nat) : Env := ⟨Try.prog, N, [], [(0, ⟨[], [], [], [], [0, 1], [], none⟩), (1, ⟨[], [], [], [], [2, 3, 4], [2, 3, 4], none⟩)], kdL [], [], [], []⟩
def r2_Sub_g (N : Nat) (v1 : (Nat × (Nat × Unit))) (v2 : (Nat × (Nat × Unit))) : Option ((Nat × (Nat × Unit))) :=
  ((Ieee.double.sub v1.1 v2.1).bind fun v3 => (Ieee.double.sub v1.2.1 v2.2.1).bind fun v4 => (some (v3, v4, ())))
def r2_Sub (N : Nat) (v1 : (Nat × (Nat × Unit))) (v2 : (Nat × (Nat × Unit))) : Option ((Nat × (Nat × Unit))) :=
  r2_Sub_g N v1 v2
set_option maxRecDepth 100000
theorem r2_Sub_t (N : Nat) (v1 : (Nat × (Nat × Unit))) (v2 : (Nat × (Nat × Unit))) : evF (r2_Sub_E N) [] Try.f95 [.k (.pair .float (.pair .float .unit)), .k (.pair .float (.pair .float .unit))] [(.pair .float (.pair .float .unit))] (v1, v2, ()) = r2_Sub N v1 v2 := by
  exact (show evF (r2_Sub_E N) [] Try.f95 [.k (.pair .float (.pair .float .unit)), .k (.pair .float (.pair .float .unit))] [(.pair .float (.pair .float .unit))] (v1, v2, ()) = r2_Sub_g N v1 v2 from by kernel_rfl).trans (by rfl)
noncomputable def r2_Sub_con (N : Nat) : Con := ⟨95, [.k (.pair .float (.pair .float .unit)), .k (.pair .float (.pair .float .unit))], [(.pair .float (.pair .float .unit))], fun x => r2_Sub N x.1 x.2.1⟩
theorem r2_Sub_s (N : Nat) : (r2_Sub_con N).Sound Try.prog [] :=
  Con.sound_of (c := r2_Sub_con N) (E := (r2_Sub_E N)) (idle := []) Try.func95 (by kernel_rfl) (by kernel_rfl) ⟨allNil, allNil, rfl⟩ allNil (fun x y h => (r2_Sub_t N x.1 x.2.1).trans h)
/-- pub-orthodrome/pub/gonum/spatial/r2.Norm2 -/
noncomputable def r2_Norm2_E (N : Nat) : Env := ⟨Try.prog, N, [], [(0, ⟨[], [], [], [], [0], [], none⟩), (1, ⟨[], [], [], [], [1], [1], none⟩)], kdL [], [], [], []⟩
def r2_Norm2_g (N : Nat) (v1 : (Nat × (Nat × Unit))) : Option (Nat) :=
  ((Ieee.double.mul v1.1 v1.1).bind fun v2 => (Ieee.double.mul v1.2.1 v1.2.1).bind fun v3 => (Ieee.double.add v2 v3).bind fun v4 => (some v4))
def r2_Norm2 (N : Nat) (v1 : (Nat × (Nat × Unit))) : Option (Nat) :=
  r2_Norm2_g N v1
set_option maxRecDepth 100000
theorem r2_Norm2_t (N : Nat) (v1 : (Nat × (Nat × Unit))) : evF (r2_Norm2_E N) [] Try.f52 [.k (.pair .float (.pair .float .unit))] [.float] (v1, ()) = r2_Norm2 N v1 := by
  exact (show evF (r2_Norm2_E N) [] Try.f52 [.k (.pair .float (.pair .float .unit))] [.float] (v1, ()) = r2_Norm2_g N v1 from by kernel_rfl).trans (by rfl)
noncomputable def r2_Norm2_con (N : Nat) : Con := ⟨52, [.k (.pair .float (.pair .float .unit))], [.float], fun x => r2_Norm2 N x.1⟩
theorem r2_Norm2_s (N : Nat) : (r2_Norm2_con N).Sound Try.prog [] :=
  Con.sound_of (c := r2_Norm2_con N) (E := (r2_Norm2_E N)) (idle := []) Try.func52 (by kernel_rfl) (by kernel_rfl) ⟨allNil, allNil, rfl⟩ allNil (fun x y h => (r2_Norm2_t N x.1).trans h)
/-- math.archHypot -/
def math_archHypot (N : Nat) (v1 : Nat) (v2 : Nat) : Option Nat := fhypot v1 v2
noncomputable def math_archHypot_con (N : Nat) : Con := ⟨113, [.k .float, .k .float], [.float], fun x => math_archHypot N x.1 x.2.1⟩
theorem math_archHypot_s (N : Nat) : (math_archHypot_con N).Sound Try.prog [] := hypot_of Try.func113 (by kernel_rfl) (by kernel_rfl) (by kernel_rfl) (by kernel_rfl)
/-- math.Hypot -/
noncomputable def math_Hypot_E (N : Nat) : Env := ⟨Try.prog, N, [math_archHypot_con N], [(0, ⟨[], [], [], [], [0, 1], [], none⟩), (1, ⟨[], [], [], [], [0, 1], [], none⟩), (2, ⟨[], [], [], [], [0, 1], [], none⟩)], kdL [], [], [], []⟩
def math_Hypot_g (N : Nat) (v1 : Nat) (v2 : Nat) : Option (Nat) :=
  ((math_archHypot N v1 v2).bind fun v3 => (some v3))
def math_Hypot (N : Nat) (v1 : Nat) (v2 : Nat) : Option (Nat) :=
  math_Hypot_g N v1 v2
set_option maxRecDepth 100000
theorem math_Hypot_t (N : Nat) (v1 : Nat) (v2 : Nat) : evF (math_Hypot_E N) [] Try.f91 [.k .float, .k .float] [.float] (v1, v2, ()) = math_Hypot N v1 v2 := by
  exact (show evF (math_Hypot_E N) [] Try.f91 [.k .float, .k .float] [.float] (v1, v2, ()) = math_Hypot_g N v1 v2 from by kernel_rfl).trans (by rfl)
noncomputable def math_Hypot_con (N : Nat) : Con := ⟨91, [.k .float, .k .float], [.float], fun x => math_Hypot N x.1 x.2.1⟩
theorem math_Hypot_s (N : Nat) : (math_Hypot_con N).Sound Try.prog [] :=
  Con.sound_of (c := math_Hypot_con N) (E := (math_Hypot_E N)) (idle := []) Try.func91 (by kernel_rfl) (by kernel_rfl) ⟨(allCons (math_archHypot_s N) allNil), allNil, rfl⟩ allNil (fun x y h => (math_Hypot_t N x.1 x.2.1).trans h)
/-- (pub-orthodrome/pub/gonum/spatial/r2.line).distance -/
noncomputable def r2_line_distance_E (N : Nat) : Env := ⟨Try.prog, N, [math_Abs_con N, math_Hypot_con N], [(0, ⟨[], [], [], [], [0, 1], [], none⟩), (1, ⟨[], [], [], [], [2, 3], [2, 3], none⟩), (2, ⟨[], [], [], [], [2, 3, 5], [2, 3, 5], none⟩), (3, ⟨[], [], [], [], [3, 5, 6], [3, 5, 6], none⟩), (4, ⟨[], [], [], [], [5, 6, 7], [5, 6], none⟩)], kdL [], [], [], []⟩
def r2_line_distance_g (N : Nat) (v1 : ((Nat × (Nat × Unit)) × ((Nat × (Nat × Unit)) × Unit))) (v2 : (Nat × (Nat × Unit))) : Option (Nat) :=
  ((Ieee.double.sub v1.2.1.1 v1.1.1).bind fun v3 => (Ieee.double.sub v1.1.2.1 v2.2.1).bind fun v4 => (Ieee.double.mul v3 v4).bind fun v5 => (Ieee.double.sub v1.1.1 v2.1).bind fun v6 => (Ieee.double.sub v1.2.1.2.1 v1.1.2.1).bind fun v7 => (Ieee.double.mul v6 v7).bind fun v8 => (Ieee.double.sub v5 v8).bind fun v9 => (math_Abs N v9).bind fun v10 => ((Ieee.double.sub v1.2.1.1 v1.1.1).bind fun v11 => (Ieee.double.sub v1.2.1.2.1 v1.1.2.1).bind fun v12 => (math_Hypot N v11 v12).bind fun v13 => (Ieee.double.div v10 v13).bind fun v14 => (some v14)))
def r2_line_distance (N : Nat) (v1 : ((Nat × (Nat × Unit)) × ((Nat × (Nat × Unit)) × Unit))) (v2 : (Nat × (Nat × Unit))) : Option (Nat) :=
  r2_line_distance_g N v1 v2
set_option maxRecDepth 100000
theorem r2_line_distance_t (N : Nat) (v1 : ((Nat × (Nat × Unit)) × ((Nat × (Nat × Unit)) × Unit))) (v2 : (Nat × (Nat × Unit))) : evF (r2_line_distance_E N) [] Try.f96 [.k (.pair (.pair .float (.pair .float .unit)) (.pair (.pair .float (.pair .float .unit)) .unit)), .k (.pair .float (.pair .float .unit))] [.float] (v1, v2, ()) = r2_line_distance N v1 v2 := by
  exact (show evF (r2_line_distance_E N) [] Try.f96 [.k (.pair (.pair .float (.pair .float .unit)) (.pair (.pair .float (.pair .float .unit)) .unit)), .k (.pair .float (.pair .float .unit))] [.float] (v1, v2, ()) = r2_line_distance_g N v1 v2 from by kernel_rfl).trans (by rfl)
noncomputable def r2_line_distance_con (N : Nat) : Con := ⟨96, [.k (.pair (.pair .float (.pair .float .unit)) (.pair (.pair .float (.pair .float .unit)) .unit)), .k (.pair .float (.pair .float .unit))], [.float], fun x => r2_line_distance N x.1 x.2.1⟩
theorem r2_line_distance_s (N : Nat) : (r2_line_distance_con N).Sound Try.prog [] :=
  Con.sound_of (c := r2_line_distance_con N) (E := (r2_line_distance_E N)) (idle := []) Try.func96 (by kernel_rfl) (by kernel_rfl) ⟨(allCons (math_Abs_s N) (allCons (math_Hypot_s N) allNil)), allNil, rfl⟩ allNil (fun x y h => (r2_line_distance_t N x.1 x.2.1).trans h)
/-- (pub-orthodrome/pub/gonum/spatial/r2.Triangle).IsDegenerate -/
noncomputable def r2_Triangle_IsDegenerate_E (N : Nat) : Env := ⟨Try.prog, N, [r2_Sub_con N, r2_Norm2_con N, r2_line_distance_con N], [(0, ⟨[], [], [], [], [0, 1], [], none⟩), (1, ⟨[], [], [], [], [1, 2], [2], none⟩), (2, ⟨[], [], [], [], [1, 2, 5], [2, 5], none⟩), (3, ⟨[], [], [], [], [1, 2, 6], [2, 6], none⟩), (4, ⟨[], [], [], [], [1, 2, 6, 7], [2, 6], none⟩), (5, ⟨[], [], [], [], [1, 2, 6, 7, 8], [2, 6], none⟩), (6, ⟨[], [], [], [], [1, 2, 6, 7, 8, 42], [2, 6], none⟩), (7, ⟨[], [], [], [], [1, 2, 6, 7], [2, 6], none⟩), (8, ⟨[], [], [], [], [1, 2, 6, 7, 8], [2, 6], some N⟩), (9, ⟨[], [], [], [], [1, 2, 8, 48], [2], none⟩), (10, ⟨[], [], [], [], [1, 2, 8], [2], some N⟩), (11, ⟨[], [], [], [], [1, 2, 8, 9], [2, 9], some N⟩), (12, ⟨[], [], [], [], [1, 10], [], some N⟩)], kdL [], [], [], []⟩
def r2_Triangle_IsDegenerate_g3 (N : Nat) (v2 : Nat) (v19 : Nat) : Option (Bool) :=
  (some (fle v19 v2))
def r2_Triangle_IsDegenerate_j3 (N : Nat) (v2 : Nat) (v19 : Nat) : Option (Bool) :=
  gate N (r2_Triangle_IsDegenerate_g3 N v2 v19)
def r2_Triangle_IsDegenerate_g2 (N : Nat) (v2 : Nat) (v11 : Int) (v1 : ((Nat × (Nat × Unit)) × ((Nat × (Nat × Unit)) × ((Nat × (Nat × Unit)) × Unit)))) (c3 : Nat → Nat → Option (Bool)) (v12 : Nat) (v13 : Nat) (v14 : Nat) (v15 : Nat) : Option (Bool) :=
  (bif (decide ((Int.tmod (IntKind.i64.wrap (v11 + 2)) 3) = ((0 : Nat) : Int))) then ((r2_line_distance N ((v12, v13, ()), (v14, v15, ()), ()) (v1.1.1, v1.1.2.1, ())).bind fun v18 => (c3 v2 v18)) else (bif (decide ((Int.tmod (IntKind.i64.wrap (v11 + 2)) 3) = ((1 : Nat) : Int))) then ((r2_line_distance N ((v12, v13, ()), (v14, v15, ()), ()) (v1.2.1.1, v1.2.1.2.1, ())).bind fun v17 => (c3 v2 v17)) else (bif (decide ((Int.tmod (IntKind.i64.wrap (v11 + 2)) 3) = ((2 : Nat) : Int))) then ((r2_line_distance N ((v12, v13, ()), (v14, v15, ()), ()) (v1.2.2.1.1, v1.2.2.1.2.1, ())).bind fun v16 => (c3 v2 v16)) else none)))
def r2_Triangle_IsDegenerate_j2 (N : Nat) (v2 : Nat) (v11 : Int) (v1 : ((Nat × (Nat × Unit)) × ((Nat × (Nat × Unit)) × ((Nat × (Nat × Unit)) × Unit)))) (v12 : Nat) (v13 : Nat) (v14 : Nat) (v15 : Nat) : Option (Bool) :=
  gate N (r2_Triangle_IsDegenerate_g2 N v2 v11 v1 (r2_Triangle_IsDegenerate_j3 N) v12 v13 v14 v15)
def r2_Triangle_IsDegenerate_g1 (N : Nat) (v2 : Nat) (v1 : ((Nat × (Nat × Unit)) × ((Nat × (Nat × Unit)) × ((Nat × (Nat × Unit)) × Unit)))) (c2 : Nat → Int → ((Nat × (Nat × Unit)) × ((Nat × (Nat × Unit)) × ((Nat × (Nat × Unit)) × Unit))) → Nat → Nat → Nat → Nat → Option (Bool)) (v11 : Int) : Option (Bool) :=
  (bif (decide (v11 = ((0 : Nat) : Int))) then (bif (decide ((Int.tmod (IntKind.i64.wrap (v11 + 1)) 3) = ((0 : Nat) : Int))) then (c2 v2 v11 v1 v1.1.1 v1.1.2.1 v1.1.1 v1.1.2.1) else (bif (decide ((Int.tmod (IntKind.i64.wrap (v11 + 1)) 3) = ((1 : Nat) : Int))) then (c2 v2 v11 v1 v1.1.1 v1.1.2.1 v1.2.1.1 v1.2.1.2.1) else (bif (decide ((Int.tmod (IntKind.i64.wrap (v11 + 1)) 3) = ((2 : Nat) : Int))) then (c2 v2 v11 v1 v1.1.1 v1.1.2.1 v1.2.2.1.1 v1.2.2.1.2.1) else none))) else (bif (decide (v11 = ((1 : Nat) : Int))) then (bif (decide ((Int.tmod (IntKind.i64.wrap (v11 + 1)) 3) = ((0 : Nat) : Int))) then (c2 v2 v11 v1 v1.2.1.1 v1.2.1.2.1 v1.1.1 v1.1.2.1) else (bif (decide ((Int.tmod (IntKind.i64.wrap (v11 + 1)) 3) = ((1 : Nat) : Int))) then (c2 v2 v11 v1 v1.2.1.1 v1.2.1.2.1 v1.2.1.1 v1.2.1.2.1) else (bif (decide ((Int.tmod (IntKind.i64.wrap (v11 + 1)) 3) = ((2 : Nat) : Int))) then (c2 v2 v11 v1 v1.2.1.1 v1.2.1.2.1 v1.2.2.1.1 v1.2.2.1.2.1) else none))) else (bif (decide (v11 = ((2 : Nat) : Int))) then (bif (decide ((Int.tmod (IntKind.i64.wrap (v11 + 1)) 3) = ((0 : Nat) : Int))) then (c2 v2 v11 v1 v1.2.2.1.1 v1.2.2.1.2.1 v1.1.1 v1.1.2.1) else (bif (decide ((Int.tmod (IntKind.i64.wrap (v11 + 1)) 3) = ((1 : Nat) : Int))) then (c2 v2 v11 v1 v1.2.2.1.1 v1.2.2.1.2.1 v1.2.1.1 v1.2.1.2.1) else (bif (decide ((Int.tmod (IntKind.i64.wrap (v11 + 1)) 3) = ((2 : Nat) : Int))) then (c2 v2 v11 v1 v1.2.2.1.1 v1.2.2.1.2.1 v1.2.2.1.1 v1.2.2.1.2.1) else none))) else none)))
def r2_Triangle_IsDegenerate_j1 (N : Nat) (v2 : Nat) (v1 : ((Nat × (Nat × Unit)) × ((Nat × (Nat × Unit)) × ((Nat × (Nat × Unit)) × Unit)))) (v11 : Int) : Option (Bool) :=
  gate N (r2_Triangle_IsDegenerate_g1 N v2 v1 (r2_Triangle_IsDegenerate_j2 N) v11)
def r2_Triangle_IsDegenerate_g0 (N : Nat) (v2 : Nat) (v1 : ((Nat × (Nat × Unit)) × ((Nat × (Nat × Unit)) × ((Nat × (Nat × Unit)) × Unit)))) (v6 : Nat) (v7 : Nat) (v8 : Nat) (c1 : Nat → ((Nat × (Nat × Unit)) × ((Nat × (Nat × Unit)) × ((Nat × (Nat × Unit)) × Unit))) → Int → Option (Bool)) (v9 : Nat) (v10 : Int) : Option (Bool) :=
  (bif (fgt v8 v9) then (c1 v2 v1 2) else (c1 v2 v1 v10))
def r2_Triangle_IsDegenerate_j0 (N : Nat) (v2 : Nat) (v1 : ((Nat × (Nat × Unit)) × ((Nat × (Nat × Unit)) × ((Nat × (Nat × Unit)) × Unit)))) (v6 : Nat) (v7 : Nat) (v8 : Nat) (v9 : Nat) (v10 : Int) : Option (Bool) :=
  gate N (r2_Triangle_IsDegenerate_g0 N v2 v1 v6 v7 v8 (r2_Triangle_IsDegenerate_j1 N) v9 v10)
def r2_Triangle_IsDegenerate_g (N : Nat) (v1 : ((Nat × (Nat × Unit)) × ((Nat × (Nat × Unit)) × ((Nat × (Nat × Unit)) × Unit)))) (v2 : Nat) (c0 : Nat → ((Nat × (Nat × Unit)) × ((Nat × (Nat × Unit)) × ((Nat × (Nat × Unit)) × Unit))) → Nat → Nat → Nat → Nat → Int → Option (Bool)) : Option (Bool) :=
  ((r2_Sub N (v1.2.1.1, v1.2.1.2.1, ()) (v1.1.1, v1.1.2.1, ())).bind fun v3 => (r2_Sub N (v1.2.2.1.1, v1.2.2.1.2.1, ()) (v1.2.1.1, v1.2.1.2.1, ())).bind fun v4 => (r2_Sub N (v1.1.1, v1.1.2.1, ()) (v1.2.2.1.1, v1.2.2.1.2.1, ())).bind fun v5 => ((r2_Norm2 N (v3.1, v3.2.1, ())).bind fun v6 => (r2_Norm2 N (v4.1, v4.2.1, ())).bind fun v7 => (r2_Norm2 N (v5.1, v5.2.1, ())).bind fun v8 => (bif (fgt v7 v6) then (c0 v2 v1 v6 v7 v8 v7 1) else (c0 v2 v1 v6 v7 v8 v6 0))))
def r2_Triangle_IsDegenerate (N : Nat) (v1 : ((Nat × (Nat × Unit)) × ((Nat × (Nat × Unit)) × ((Nat × (Nat × Unit)) × Unit)))) (v2 : Nat) : Option (Bool) :=
  r2_Triangle_IsDegenerate_g N v1 v2 (r2_Triangle_IsDegenerate_j0 N)
set_option maxRecDepth 100000
noncomputable def r2_Triangle_IsDegenerate_e3 (N : Nat) (v2 : Nat) (v19 : Nat) : Option (HR [.bool]) :=
  gate N (evC (r2_Triangle_IsDegenerate_E N) (codeAt (bodyOf Try.f61) [1, 1, 1, 1, 1, 1, 1, 1, 1]) ⟨[(1, .pv .float v2), (10, .pv .float v19)], [], []⟩ (kEnd (r2_Triangle_IsDegenerate_E N) [] Try.f61.results.toList [.bool]))
noncomputable def r2_Triangle_IsDegenerate_e2 (N : Nat) (v2 : Nat) (v11 : Int) (v1 : ((Nat × (Nat × Unit)) × ((Nat × (Nat × Unit)) × ((Nat × (Nat × Unit)) × Unit)))) (v12 : Nat) (v13 : Nat) (v14 : Nat) (v15 : Nat) : Option (HR [.bool]) :=
  gate N (evC (r2_Triangle_IsDegenerate_E N) (codeAt (bodyOf Try.f61) [1, 1, 1, 1, 1, 1, 1, 1]) ⟨[(1, .pv .float v2), (2, .ref 2 0), (8, .pv (.int .i64) v11), (9, .ref 9 0)], [(2, .box [.pv .float v1.1.1, .pv .float v1.1.2.1, .pv .float v1.2.1.1, .pv .float v1.2.1.2.1, .pv .float v1.2.2.1.1, .pv .float v1.2.2.1.2.1]), (9, .box [.pv .float v12, .pv .float v13, .pv .float v14, .pv .float v15])], []⟩ (kEnd (r2_Triangle_IsDegenerate_E N) [] Try.f61.results.toList [.bool]))
noncomputable def r2_Triangle_IsDegenerate_e1 (N : Nat) (v2 : Nat) (v1 : ((Nat × (Nat × Unit)) × ((Nat × (Nat × Unit)) × ((Nat × (Nat × Unit)) × Unit)))) (v11 : Int) : Option (HR [.bool]) :=
  gate N (evC (r2_Triangle_IsDegenerate_E N) (codeAt (bodyOf Try.f61) [1, 1, 1, 1, 1, 1, 1]) ⟨[(1, .pv .float v2), (2, .ref 2 0), (8, .pv (.int .i64) v11)], [(2, .box [.pv .float v1.1.1, .pv .float v1.1.2.1, .pv .float v1.2.1.1, .pv .float v1.2.1.2.1, .pv .float v1.2.2.1.1, .pv .float v1.2.2.1.2.1])], []⟩ (kEnd (r2_Triangle_IsDegenerate_E N) [] Try.f61.results.toList [.bool]))
noncomputable def r2_Triangle_IsDegenerate_e0 (N : Nat) (v2 : Nat) (v1 : ((Nat × (Nat × Unit)) × ((Nat × (Nat × Unit)) × ((Nat × (Nat × Unit)) × Unit)))) (v6 : Nat) (v7 : Nat) (v8 : Nat) (v9 : Nat) (v10 : Int) : Option (HR [.bool]) :=
  gate N (evC (r2_Triangle_IsDegenerate_E N) (codeAt (bodyOf Try.f61) [1, 1, 1, 1, 1, 1]) ⟨[(1, .pv .float v2), (2, .ref 2 0), (6, .ref 6 0), (7, .pv .float v9), (8, .pv (.int .i64) v10)], [(2, .box [.pv .float v1.1.1, .pv .float v1.1.2.1, .pv .float v1.2.1.1, .pv .float v1.2.1.2.1, .pv .float v1.2.2.1.1, .pv .float v1.2.2.1.2.1]), (6, .box [.pv .float v6, .pv .float v7, .pv .float v8])], []⟩ (kEnd (r2_Triangle_IsDegenerate_E N) [] Try.f61.results.toList [.bool]))
theorem r2_Triangle_IsDegenerate_t3 (N : Nat) (v2 : Nat) (v19 : Nat) : r2_Triangle_IsDegenerate_e3 N v2 v19 = r2_Triangle_IsDegenerate_j3 N v2 v19 := by
  exact (congrArg (gate N) (show evC (r2_Triangle_IsDegenerate_E N) (codeAt (bodyOf Try.f61) [1, 1, 1, 1, 1, 1, 1, 1, 1]) ⟨[(1, .pv .float v2), (10, .pv .float v19)], [], []⟩ (kEnd (r2_Triangle_IsDegenerate_E N) [] Try.f61.results.toList [.bool]) = r2_Triangle_IsDegenerate_g3 N v2 v19 from by kernel_rfl)).trans (by rfl)
theorem r2_Triangle_IsDegenerate_t2 (N : Nat) (v2 : Nat) (v11 : Int) (v1 : ((Nat × (Nat × Unit)) × ((Nat × (Nat × Unit)) × ((Nat × (Nat × Unit)) × Unit)))) (v12 : Nat) (v13 : Nat) (v14 : Nat) (v15 : Nat) : r2_Triangle_IsDegenerate_e2 N v2 v11 v1 v12 v13 v14 v15 = r2_Triangle_IsDegenerate_j2 N v2 v11 v1 v12 v13 v14 v15 := by
  have h3 : (r2_Triangle_IsDegenerate_e3 N) = (r2_Triangle_IsDegenerate_j3 N) := by funext v2 v19; exact r2_Triangle_IsDegenerate_t3 N v2 v19
  exact (congrArg (gate N) (show evC (r2_Triangle_IsDegenerate_E N) (codeAt (bodyOf Try.f61) [1, 1, 1, 1, 1, 1, 1, 1]) ⟨[(1, .pv .float v2), (2, .ref 2 0), (8, .pv (.int .i64) v11), (9, .ref 9 0)], [(2, .box [.pv .float v1.1.1, .pv .float v1.1.2.1, .pv .float v1.2.1.1, .pv .float v1.2.1.2.1, .pv .float v1.2.2.1.1, .pv .float v1.2.2.1.2.1]), (9, .box [.pv .float v12, .pv .float v13, .pv .float v14, .pv .float v15])], []⟩ (kEnd (r2_Triangle_IsDegenerate_E N) [] Try.f61.results.toList [.bool]) = r2_Triangle_IsDegenerate_g2 N v2 v11 v1 (r2_Triangle_IsDegenerate_e3 N) v12 v13 v14 v15 from by kernel_rfl)).trans (by rw [h3]; rfl)
theorem r2_Triangle_IsDegenerate_t1 (N : Nat) (v2 : Nat) (v1 : ((Nat × (Nat × Unit)) × ((Nat × (Nat × Unit)) × ((Nat × (Nat × Unit)) × Unit)))) (v11 : Int) : r2_Triangle_IsDegenerate_e1 N v2 v1 v11 = r2_Triangle_IsDegenerate_j1 N v2 v1 v11 := by
  have h2 : (r2_Triangle_IsDegenerate_e2 N) = (r2_Triangle_IsDegenerate_j2 N) := by funext v2 v11 v1 v12 v13 v14 v15; exact r2_Triangle_IsDegenerate_t2 N v2 v11 v1 v12 v13 v14 v15
  exact (congrArg (gate N) (show evC (r2_Triangle_IsDegenerate_E N) (codeAt (bodyOf Try.f61) [1, 1, 1, 1, 1, 1, 1]) ⟨[(1, .pv .float v2), (2, .ref 2 0), (8, .pv (.int .i64) v11)], [(2, .box [.pv .float v1.1.1, .pv .float v1.1.2.1, .pv .float v1.2.1.1, .pv .float v1.2.1.2.1, .pv .float v1.2.2.1.1, .pv .float v1.2.2.1.2.1])], []⟩ (kEnd (r2_Triangle_IsDegenerate_E N) [] Try.f61.results.toList [.bool]) = r2_Triangle_IsDegenerate_g1 N v2 v1 (r2_Triangle_IsDegenerate_e2 N) v11 from by kernel_rfl)).trans (by rw [h2]; rfl)
theorem r2_Triangle_IsDegenerate_t0 (N : Nat) (v2 : Nat) (v1 : ((Nat × (Nat × Unit)) × ((Nat × (Nat × Unit)) × ((Nat × (Nat × Unit)) × Unit)))) (v6 : Nat) (v7 : Nat) (v8 : Nat) (v9 : Nat) (v10 : Int) : r2_Triangle_IsDegenerate_e0 N v2 v1 v6 v7 v8 v9 v10 = r2_Triangle_IsDegenerate_j0 N v2 v1 v6 v7 v8 v9 v10 := by
  have h1 : (r2_Triangle_IsDegenerate_e1 N) = (r2_Triangle_IsDegenerate_j1 N) := by funext v2 v1 v11; exact r2_Triangle_IsDegenerate_t1 N v2 v1 v11
  exact (congrArg (gate N) (show evC (r2_Triangle_IsDegenerate_E N) (codeAt (bodyOf Try.f61) [1, 1, 1, 1, 1, 1]) ⟨[(1, .pv .float v2), (2, .ref 2 0), (6, .ref 6 0), (7, .pv .float v9), (8, .pv (.int .i64) v10)], [(2, .box [.pv .float v1.1.1, .pv .float v1.1.2.1, .pv .float v1.2.1.1, .pv .float v1.2.1.2.1, .pv .float v1.2.2.1.1, .pv .float v1.2.2.1.2.1]), (6, .box [.pv .float v6, .pv .float v7, .pv .float v8])], []⟩ (kEnd (r2_Triangle_IsDegenerate_E N) [] Try.f61.results.toList [.bool]) = r2_Triangle_IsDegenerate_g0 N v2 v1 v6 v7 v8 (r2_Triangle_IsDegenerate_e1 N) v9 v10 from by kernel_rfl)).trans (by rw [h1]; rfl)
theorem r2_Triangle_IsDegenerate_t (N : Nat) (v1 : ((Nat × (Nat × Unit)) × ((Nat × (Nat × Unit)) × ((Nat × (Nat × Unit)) × Unit)))) (v2 : Nat) : evF (r2_Triangle_IsDegenerate_E N) [] Try.f61 [.k (.pair (.pair .float (.pair .float .unit)) (.pair (.pair .float (.pair .float .unit)) (.pair (.pair .float (.pair .float .unit)) .unit))), .k .float] [.bool] (v1, v2, ()) = r2_Triangle_IsDegenerate N v1 v2 := by
  have h0 : (r2_Triangle_IsDegenerate_e0 N) = (r2_Triangle_IsDegenerate_j0 N) := by funext v2 v1 v6 v7 v8 v9 v10; exact r2_Triangle_IsDegenerate_t0 N v2 v1 v6 v7 v8 v9 v10
  exact (show evF (r2_Triangle_IsDegenerate_E N) [] Try.f61 [.k (.pair (.pair .float (.pair .float .unit)) (.pair (.pair .float (.pair .float .unit)) (.pair (.pair .float (.pair .float .unit)) .unit))), .k .float] [.bool] (v1, v2, ()) = r2_Triangle_IsDegenerate_g N v1 v2 (r2_Triangle_IsDegenerate_e0 N) from by kernel_rfl).trans (by rw [h0]; rfl)
noncomputable def r2_Triangle_IsDegenerate_con (N : Nat) : Con := ⟨61, [.k (.pair (.pair .float (.pair .float .unit)) (.pair (.pair .float (.pair .float .unit)) (.pair (.pair .float (.pair .float .unit)) .unit))), .k .float], [.bool], fun x => r2_Triangle_IsDegenerate N x.1 x.2.1⟩
theorem r2_Triangle_IsDegenerate_s (N : Nat) : (r2_Triangle_IsDegenerate_con N).Sound Try.prog [] :=
  Con.sound_of (c := r2_Triangle_IsDegenerate_con N) (E := (r2_Triangle_IsDegenerate_E N)) (idle := []) Try.func61 (by kernel_rfl) (by kernel_rfl) ⟨(allCons (r2_Sub_s N) (allCons (r2_Norm2_s N) (allCons (r2_line_distance_s N) allNil))), allNil, rfl⟩ allNil (fun x y h => (r2_Triangle_IsDegenerate_t N x.1 x.2.1).trans h)
/-- pub-orthodrome/impl.Degenerate2 -/
noncomputable def impl_Degenerate2_E (N : Nat) : Env := ⟨Try.prog, N, [impl_vec2_con N, r2_Triangle_IsDegenerate_con N], [(0, ⟨[], [], [], [], [0, 1, 2, 3], [], none⟩), (1, ⟨[], [], [], [], [3, 4, 5, 6], [4, 5, 6], none⟩)], kdL [], [], [], []⟩
def impl_Degenerate2_g (N : Nat) (v1 : (Nat × (Nat × Unit))) (v2 : (Nat × (Nat × Unit))) (v3 : (Nat × (Nat × Unit))) (v4 : Nat) : Option (Bool) :=
  ((impl_vec2 N (v1.1, v1.2.1, ())).bind fun v5 => (impl_vec2 N (v2.1, v2.2.1, ())).bind fun v6 => (impl_vec2 N (v3.1, v3.2.1, ())).bind fun v7 => (r2_Triangle_IsDegenerate N ((v5.1, v5.2.1, ()), (v6.1, v6.2.1, ()), (v7.1, v7.2.1, ()), ()) v4).bind fun v8 => (some v8))
def impl_Degenerate2 (N : Nat) (v1 : (Nat × (Nat × Unit))) (v2 : (Nat × (Nat × Unit))) (v3 : (Nat × (Nat × Unit))) (v4 : Nat) : Option (Bool) :=
  impl_Degenerate2_g N v1 v2 v3 v4
set_option maxRecDepth 100000
theorem impl_Degenerate2_t (N : Nat) (v1 : (Nat × (Nat × Unit))) (v2 : (Nat × (Nat × Unit))) (v3 : (Nat × (Nat × Unit))) (v4 : Nat) : evF (impl_Degenerate2_E N) [] Try.f26 [.k (.pair .float (.pair .float .unit)), .k (.pair .float (.pair .float .unit)), .k (.pair .float (.pair .float .unit)), .k .float] [.bool] (v1, v2, v3, v4, ()) = impl_Degenerate2 N v1 v2 v3 v4 := by
  exact (show evF (impl_Degenerate2_E N) [] Try.f26 [.k (.pair .float (.pair .float .unit)), .k (.pair .float (.pair .float .unit)), .k (.pair .float (.pair .float .unit)), .k .float] [.bool] (v1, v2, v3, v4, ()) = impl_Degenerate2_g N v1 v2 v3 v4 from by kernel_rfl).trans (by rfl)
noncomputable def impl_Degenerate2_con (N : Nat) : Con := ⟨26, [.k (.pair .float (.pair .float .unit)), .k (.pair .float (.pair .float .unit)), .k (.pair .float (.pair .float .unit)), .k .float], [.bool], fun x => impl_Degenerate2 N x.1 x.2.1 x.2.2.1 x.2.2.2.1⟩
theorem impl_Degenerate2_s (N : Nat) : (impl_Degenerate2_con N).Sound Try.prog [] :=
  Con.sound_of (c := impl_Degenerate2_con N) (E := (impl_Degenerate2_E N)) (idle := []) Try.func26 (by kernel_rfl) (by kernel_rfl) ⟨(allCons (impl_vec2_s N) (allCons (r2_Triangle_IsDegenerate_s N) allNil)), allNil, rfl⟩ allNil (fun x y h => (impl_Degenerate2_t N x.1 x.2.1 x.2.2.1 x.2.2.2.1).trans h)
/-- pub-orthodrome/laws.FnDegenerate2 -/
noncomputable def laws_FnDegenerate2_E (N : Nat) : Env := ⟨Try.prog, N, [laws_off2_b_con N, spec_Grid_con N, spec_Differ_con N, spec_SquareN_con N, laws_squareArea2_con N, math_Sqrt_con N, math_Abs_con N, impl_Degenerate2_con N], [(0, ⟨[], [], [], [], [0, 1, 2, 3], [], none⟩), (1, ⟨[], [], [], [], [3, 4, 5, 6], [4, 5, 6], none⟩), (2, ⟨[], [], [], [], [3, 4, 5, 6, 9], [4, 5, 6], none⟩), (3, ⟨[], [], [], [], [3, 4, 5, 6, 9, 39], [4, 5, 6], some N⟩), (4, ⟨[], [], [], [], [3, 4, 5, 6, 9], [4, 5, 6], none⟩), (5, ⟨[], [], [], [], [3, 4, 5, 6, 10], [4, 5, 6, 10], none⟩), (6, ⟨[], [], [], [], [3, 4, 5, 6, 10, 11, 12], [4, 5, 6, 10], none⟩), (7, ⟨[], [], [], [], [3, 4, 5, 6, 11, 12, 69, 70], [4, 5, 6], none⟩), (8, ⟨[], [], [], [], [3, 4, 5, 6, 11, 12, 69, 70], [4, 5, 6], none⟩), (9, ⟨[], [], [], [], [3, 4, 5, 6, 11, 12, 14, 69, 70], [4, 5, 6], none⟩), (10, ⟨[], [], [], [], [3, 4, 5, 6, 11, 12, 69, 70, 75], [4, 5, 6], none⟩), (11, ⟨[], [], [], [], [3, 4, 5, 6, 11, 12, 69, 70], [4, 5, 6], some N⟩), (12, ⟨[], [], [], [], [3, 4, 5, 6, 11, 12], [4, 5, 6], none⟩), (13, ⟨[], [], [], [], [3, 4, 5, 6, 12, 15], [4, 5, 6], none⟩), (14, ⟨[], [], [], [], [3, 4, 5, 6, 15, 95], [4, 5, 6], none⟩), (15, ⟨[], [], [], [], [3, 4, 5, 6, 15], [4, 5, 6], none⟩)], kdL [(22, .float), (36, (.list .float))], [], [], []⟩
def laws_FnDegenerate2_g0 (N : Nat) (v4 : Nat) (v5 : (List Nat)) (v6 : (List Nat)) (v7 : (List Nat)) (v1 : (Nat × (Nat × Unit))) (v2 : (Nat × (Nat × Unit))) (v3 : (Nat × (Nat × Unit))) : Option (Bool) :=
  (some true)
def laws_FnDegenerate2_j0 (N : Nat) (v4 : Nat) (v5 : (List Nat)) (v6 : (List Nat)) (v7 : (List Nat)) (v1 : (Nat × (Nat × Unit))) (v2 : (Nat × (Nat × Unit))) (v3 : (Nat × (Nat × Unit))) : Option (Bool) :=
  gate N (laws_FnDegenerate2_g0 N v4 v5 v6 v7 v1 v2 v3)
def laws_FnDegenerate2_g2 (N : Nat) (v4 : Nat) (v20 : Nat) (v12 : Nat) (v15 : Nat) (v18 : Nat) (v1 : (Nat × (Nat × Unit))) (v2 : (Nat × (Nat × Unit))) (v3 : (Nat × (Nat × Unit))) (v24 : Int) (r1 : Int → Int → Option (Bool)) (v26 : Int) : Option (Bool) :=
  (r1 v26 (IntKind.i64.wrap (v24 + 1)))
def laws_FnDegenerate2_j2 (N : Nat) (r1 : Int → Int → Option (Bool)) (v4 : Nat) (v20 : Nat) (v12 : Nat) (v15 : Nat) (v18 : Nat) (v1 : (Nat × (Nat × Unit))) (v2 : (Nat × (Nat × Unit))) (v3 : (Nat × (Nat × Unit))) (v24 : Int) (v26 : Int) : Option (Bool) :=
  gate N (laws_FnDegenerate2_g2 N v4 v20 v12 v15 v18 v1 v2 v3 v24 r1 v26)
def laws_FnDegenerate2_g1 (N : Nat) (v4 : Nat) (v20 : Nat) (v12 : Nat) (v15 : Nat) (v18 : Nat) (v1 : (Nat × (Nat × Unit))) (v2 : (Nat × (Nat × Unit))) (v3 : (Nat × (Nat × Unit))) (c2 : Int → Int → Option (Bool)) (r1 : Int → Int → Option (Bool)) (v23 : Int) (v24 : Int) : Option (Bool) :=
  (bif (decide ((v24 : Int) < 3)) then ((nth ([v12, v15, v18] : List Nat) v24).bind fun v25 => (bif (feq v25 v20) then (c2 v24 (IntKind.i64.wrap (v23 + 1))) else (c2 v24 v23))) else ((laws_squareArea2 N (v1.1, v1.2.1, ()) (v2.1, v2.2.1, ()) (v3.1, v3.2.1, ())).bind fun v27 => (Ieee.double.div v27 v20).bind fun v28 => (math_Sqrt N v28).bind fun v29 => (Ieee.double.mul 4611686018427387904 v29).bind fun v30 => (bif (decide ((v23 : Int) > 1)) then (some true) else ((Ieee.double.sub v30 v4).bind fun v31 => (math_Abs N v31).bind fun v32 => (bif (flt v32 4539628424389459968) then (some true) else ((impl_Degenerate2 N (v1.1, v1.2.1, ()) (v2.1, v2.2.1, ()) (v3.1, v3.2.1, ()) v4).bind fun v33 => (some (v33 == (flt v30 v4)))))))))
def laws_FnDegenerate2_l1 (N : Nat) : Nat → Nat → Nat → Nat → Nat → Nat → (Nat × (Nat × Unit)) → (Nat × (Nat × Unit)) → (Nat × (Nat × Unit)) → Int → Int → Option (Bool)
  | 0, _, _, _, _, _, _, _, _, _, _ => none
  | n + 1, v4, v20, v12, v15, v18, v1, v2, v3, v23, v24 => laws_FnDegenerate2_g1 N v4 v20 v12 v15 v18 v1 v2 v3 (laws_FnDegenerate2_j2 N (laws_FnDegenerate2_l1 N n v4 v20 v12 v15 v18 v1 v2 v3) v4 v20 v12 v15 v18 v1 v2 v3) (laws_FnDegenerate2_l1 N n v4 v20 v12 v15 v18 v1 v2 v3) v23 v24
def laws_FnDegenerate2_g (N : Nat) (v1 : (Nat × (Nat × Unit))) (v2 : (Nat × (Nat × Unit))) (v3 : (Nat × (Nat × Unit))) (v4 : Nat) (c0 : Nat → (List Nat) → (List Nat) → (List Nat) → (Nat × (Nat × Unit)) → (Nat × (Nat × Unit)) → (Nat × (Nat × Unit)) → Option (Bool)) (c1 : Nat → Nat → Nat → Nat → Nat → (Nat × (Nat × Unit)) → (Nat × (Nat × Unit)) → (Nat × (Nat × Unit)) → Int → Int → Option (Bool)) : Option (Bool) :=
  ((laws_off2_b N (v1.1, v1.2.1, ())).bind fun v5 => (laws_off2_b N (v2.1, v2.2.1, ())).bind fun v6 => (laws_off2_b N (v3.1, v3.2.1, ())).bind fun v7 => ((spec_Grid N ([v5, v6, v7] : List (List Nat)) 2 4652007308841189376).bind fun v8 => bif (!v8) then (c0 v4 v5 v6 v7 v1 v2 v3) else ((spec_Differ N ([v5, v6, v7] : List (List Nat))).bind fun v9 => bif (!v9) then (c0 v4 v5 v6 v7 v1 v2 v3) else (bif (fge v4 4562146422526312448) then (gate N (bif (!(fle v4 4656510908468559872)) then (some true) else ((nth ([v5, v6, v7] : List (List Nat)) 1).bind fun v10 => (nth ([v5, v6, v7] : List (List Nat)) 2).bind fun v11 => (spec_SquareN N v10 v11).bind fun v12 => (nth ([v5, v6, v7] : List (List Nat)) 2).bind fun v13 => (nth ([v5, v6, v7] : List (List Nat)) 0).bind fun v14 => (spec_SquareN N v13 v14).bind fun v15 => (nth ([v5, v6, v7] : List (List Nat)) 0).bind fun v16 => (nth ([v5, v6, v7] : List (List Nat)) 1).bind fun v17 => (spec_SquareN N v16 v17).bind fun v18 => ((fmm true v12 v15).bind fun v19 => (fmm true v19 v18).bind fun v20 => ((c1 v4 v20 v12 v15 v18 v1 v2 v3 0 0)))))) else (c0 v4 v5 v6 v7 v1 v2 v3)))))
def laws_FnDegenerate2 (N : Nat) (v1 : (Nat × (Nat × Unit))) (v2 : (Nat × (Nat × Unit))) (v3 : (Nat × (Nat × Unit))) (v4 : Nat) : Option (Bool) :=
  laws_FnDegenerate2_g N v1 v2 v3 v4 (laws_FnDegenerate2_j0 N) (laws_FnDegenerate2_l1 N N)
set_option maxRecDepth 100000
noncomputable def laws_FnDegenerate2_e0 (N : Nat) (v4 : Nat) (v5 : (List Nat)) (v6 : (List Nat)) (v7 : (List Nat)) (v1 : (Nat × (Nat × Unit))) (v2 : (Nat × (Nat × Unit))) (v3 : (Nat × (Nat × Unit))) : Option (HR [.bool]) :=
  gate N (evC (laws_FnDegenerate2_E N) (codeAt (bodyOf Try.f5) [1, 1, 0, 1]) ⟨[(3, .pv .float v4), (4, .ref 4 0), (5, .ref 5 0), (6, .ref 6 0), (9, .pv (.list (.list .float)) ([v5, v6, v7] : List (List Nat))), (39, .pv .bool true)], [(4, .box [.pv .float v1.1, .pv .float v1.2.1]), (5, .box [.pv .float v2.1, .pv .float v2.2.1]), (6, .box [.pv .float v3.1, .pv .float v3.2.1])], []⟩ (kSeq (advOf (laws_FnDegenerate2_E N) (codeAt (bodyOf Try.f5) [1, 1, 1])) (evC (laws_FnDegenerate2_E N) (codeAt (bodyOf Try.f5) [1, 1, 1])) (kEnd (laws_FnDegenerate2_E N) [] Try.f5.results.toList [.bool])))
noncomputable def laws_FnDegenerate2_e2 (N : Nat) (m1 : Nat) (v4 : Nat) (v20 : Nat) (v12 : Nat) (v15 : Nat) (v18 : Nat) (v1 : (Nat × (Nat × Unit))) (v2 : (Nat × (Nat × Unit))) (v3 : (Nat × (Nat × Unit))) (v24 : Int) (v26 : Int) : Option (HR [.bool]) :=
  gate N (evC (laws_FnDegenerate2_E N) (codeAt (bodyOf Try.f5) [1, 1, 1, 1, 1, 0, 1, 0, 0, 1, 1, 1]) ⟨[(3, .pv .float v4), (4, .ref 4 0), (5, .ref 5 0), (6, .ref 6 0), (11, .pv .float v20), (12, .pv (.int .i64) v26), (69, .agg [.pv .float v12, .pv .float v15, .pv .float v18]), (70, .pv (.int .i64) v24)], [(4, .box [.pv .float v1.1, .pv .float v1.2.1]), (5, .box [.pv .float v2.1, .pv .float v2.2.1]), (6, .box [.pv .float v3.1, .pv .float v3.2.1])], []⟩ (kSeq (advOf (laws_FnDegenerate2_E N) (codeAt (bodyOf Try.f5) [1, 1, 1, 1, 1, 0, 1, 0, 0])) (fun st K => loopN (advOf (laws_FnDegenerate2_E N) (codeAt (bodyOf Try.f5) [1, 1, 1, 1, 1, 0, 1, 0, 0])) (evC (laws_FnDegenerate2_E N) (codeAt (bodyOf Try.f5) [1, 1, 1, 1, 1, 0, 1, 0, 0])) m1 st K) (kBlock 0 (kSeq (advOf (laws_FnDegenerate2_E N) (codeAt (bodyOf Try.f5) [1, 1, 1, 1, 1, 1])) (evC (laws_FnDegenerate2_E N) (codeAt (bodyOf Try.f5) [1, 1, 1, 1, 1, 1])) (kEnd (laws_FnDegenerate2_E N) [] Try.f5.results.toList [.bool])))))
noncomputable def laws_FnDegenerate2_e1 (N : Nat) (n : Nat) (v4 : Nat) (v20 : Nat) (v12 : Nat) (v15 : Nat) (v18 : Nat) (v1 : (Nat × (Nat × Unit))) (v2 : (Nat × (Nat × Unit))) (v3 : (Nat × (Nat × Unit))) (v23 : Int) (v24 : Int) : Option (HR [.bool]) :=
  loopN (advOf (laws_FnDegenerate2_E N) (codeAt (bodyOf Try.f5) [1, 1, 1, 1, 1, 0, 1, 0, 0])) (evC (laws_FnDegenerate2_E N) (codeAt (bodyOf Try.f5) [1, 1, 1, 1, 1, 0, 1, 0, 0])) n ⟨[(3, .pv .float v4), (4, .ref 4 0), (5, .ref 5 0), (6, .ref 6 0), (11, .pv .float v20), (12, .pv (.int .i64) v23), (69, .agg [.pv .float v12, .pv .float v15, .pv .float v18]), (70, .pv (.int .i64) v24)], [(4, .box [.pv .float v1.1, .pv .float v1.2.1]), (5, .box [.pv .float v2.1, .pv .float v2.2.1]), (6, .box [.pv .float v3.1, .pv .float v3.2.1])], []⟩ (kBlock 0 (kSeq (advOf (laws_FnDegenerate2_E N) (codeAt (bodyOf Try.f5) [1, 1, 1, 1, 1, 1])) (evC (laws_FnDegenerate2_E N) (codeAt (bodyOf Try.f5) [1, 1, 1, 1, 1, 1])) (kEnd (laws_FnDegenerate2_E N) [] Try.f5.results.toList [.bool])))
theorem laws_FnDegenerate2_t0 (N : Nat) (v4 : Nat) (v5 : (List Nat)) (v6 : (List Nat)) (v7 : (List Nat)) (v1 : (Nat × (Nat × Unit))) (v2 : (Nat × (Nat × Unit))) (v3 : (Nat × (Nat × Unit))) : laws_FnDegenerate2_e0 N v4 v5 v6 v7 v1 v2 v3 = laws_FnDegenerate2_j0 N v4 v5 v6 v7 v1 v2 v3 := by
  exact (congrArg (gate N) (show evC (laws_FnDegenerate2_E N) (codeAt (bodyOf Try.f5) [1, 1, 0, 1]) ⟨[(3, .pv .float v4), (4, .ref 4 0), (5, .ref 5 0), (6, .ref 6 0), (9, .pv (.list (.list .float)) ([v5, v6, v7] : List (List Nat))), (39, .pv .bool true)], [(4, .box [.pv .float v1.1, .pv .float v1.2.1]), (5, .box [.pv .float v2.1, .pv .float v2.2.1]), (6, .box [.pv .float v3.1, .pv .float v3.2.1])], []⟩ (kSeq (advOf (laws_FnDegenerate2_E N) (codeAt (bodyOf Try.f5) [1, 1, 1])) (evC (laws_FnDegenerate2_E N) (codeAt (bodyOf Try.f5) [1, 1, 1])) (kEnd (laws_FnDegenerate2_E N) [] Try.f5.results.toList [.bool])) = laws_FnDegenerate2_g0 N v4 v5 v6 v7 v1 v2 v3 from by kernel_rfl)).trans (by rfl)
theorem laws_FnDegenerate2_t2 (N : Nat) (m1 : Nat) (v4 : Nat) (v20 : Nat) (v12 : Nat) (v15 : Nat) (v18 : Nat) (v1 : (Nat × (Nat × Unit))) (v2 : (Nat × (Nat × Unit))) (v3 : (Nat × (Nat × Unit))) (v24 : Int) (v26 : Int) : laws_FnDegenerate2_e2 N m1 v4 v20 v12 v15 v18 v1 v2 v3 v24 v26 = laws_FnDegenerate2_j2 N (laws_FnDegenerate2_e1 N m1 v4 v20 v12 v15 v18 v1 v2 v3) v4 v20 v12 v15 v18 v1 v2 v3 v24 v26 := by
  exact (congrArg (gate N) (show evC (laws_FnDegenerate2_E N) (codeAt (bodyOf Try.f5) [1, 1, 1, 1, 1, 0, 1, 0, 0, 1, 1, 1]) ⟨[(3, .pv .float v4), (4, .ref 4 0), (5, .ref 5 0), (6, .ref 6 0), (11, .pv .float v20), (12, .pv (.int .i64) v26), (69, .agg [.pv .float v12, .pv .float v15, .pv .float v18]), (70, .pv (.int .i64) v24)], [(4, .box [.pv .float v1.1, .pv .float v1.2.1]), (5, .box [.pv .float v2.1, .pv .float v2.2.1]), (6, .box [.pv .float v3.1, .pv .float v3.2.1])], []⟩ (kSeq (advOf (laws_FnDegenerate2_E N) (codeAt (bodyOf Try.f5) [1, 1, 1, 1, 1, 0, 1, 0, 0])) (fun st K => loopN (advOf (laws_FnDegenerate2_E N) (codeAt (bodyOf Try.f5) [1, 1, 1, 1, 1, 0, 1, 0, 0])) (evC (laws_FnDegenerate2_E N) (codeAt (bodyOf Try.f5) [1, 1, 1, 1, 1, 0, 1, 0, 0])) m1 st K) (kBlock 0 (kSeq (advOf (laws_FnDegenerate2_E N) (codeAt (bodyOf Try.f5) [1, 1, 1, 1, 1, 1])) (evC (laws_FnDegenerate2_E N) (codeAt (bodyOf Try.f5) [1, 1, 1, 1, 1, 1])) (kEnd (laws_FnDegenerate2_E N) [] Try.f5.results.toList [.bool])))) = laws_FnDegenerate2_g2 N v4 v20 v12 v15 v18 v1 v2 v3 v24 (laws_FnDegenerate2_e1 N m1 v4 v20 v12 v15 v18 v1 v2 v3) v26 from by kernel_rfl)).trans (by rfl)
theorem laws_FnDegenerate2_t1 (N : Nat) : ∀ (n : Nat) (v4 : Nat) (v20 : Nat) (v12 : Nat) (v15 : Nat) (v18 : Nat) (v1 : (Nat × (Nat × Unit))) (v2 : (Nat × (Nat × Unit))) (v3 : (Nat × (Nat × Unit))) (v23 : Int) (v24 : Int), laws_FnDegenerate2_e1 N n v4 v20 v12 v15 v18 v1 v2 v3 v23 v24 = laws_FnDegenerate2_l1 N n v4 v20 v12 v15 v18 v1 v2 v3 v23 v24
  | 0, _, _, _, _, _, _, _, _, _, _ => rfl
  | n + 1, v4, v20, v12, v15, v18, v1, v2, v3, v23, v24 => by
    have h2 : (laws_FnDegenerate2_e2 N n v4 v20 v12 v15 v18 v1 v2 v3) = (laws_FnDegenerate2_j2 N (laws_FnDegenerate2_e1 N n v4 v20 v12 v15 v18 v1 v2 v3) v4 v20 v12 v15 v18 v1 v2 v3) := by funext v24 v26; exact laws_FnDegenerate2_t2 N n v4 v20 v12 v15 v18 v1 v2 v3 v24 v26
    have h : laws_FnDegenerate2_e1 N n v4 v20 v12 v15 v18 v1 v2 v3 = laws_FnDegenerate2_l1 N n v4 v20 v12 v15 v18 v1 v2 v3 := by funext v23 v24; exact laws_FnDegenerate2_t1 N n v4 v20 v12 v15 v18 v1 v2 v3 v23 v24
    exact (show laws_FnDegenerate2_e1 N (n + 1) v4 v20 v12 v15 v18 v1 v2 v3 v23 v24 = laws_FnDegenerate2_g1 N v4 v20 v12 v15 v18 v1 v2 v3 (laws_FnDegenerate2_e2 N n v4 v20 v12 v15 v18 v1 v2 v3) (laws_FnDegenerate2_e1 N n v4 v20 v12 v15 v18 v1 v2 v3) v23 v24 from by kernel_rfl).trans (by rw [h2, h]; rfl)
theorem laws_FnDegenerate2_t (N : Nat) (v1 : (Nat × (Nat × Unit))) (v2 : (Nat × (Nat × Unit))) (v3 : (Nat × (Nat × Unit))) (v4 : Nat) : evF (laws_FnDegenerate2_E N) [] Try.f5 [.k (.pair .float (.pair .float .unit)), .k (.pair .float (.pair .float .unit)), .k (.pair .float (.pair .float .unit)), .k .float] [.bool] (v1, v2, v3, v4, ()) = laws_FnDegenerate2 N v1 v2 v3 v4 := by
  have h0 : (laws_FnDegenerate2_e0 N) = (laws_FnDegenerate2_j0 N) := by funext v4 v5 v6 v7 v1 v2 v3; exact laws_FnDegenerate2_t0 N v4 v5 v6 v7 v1 v2 v3
  have h1 : (laws_FnDegenerate2_e1 N N) = (laws_FnDegenerate2_l1 N N) := by funext v4 v20 v12 v15 v18 v1 v2 v3 v23 v24; exact laws_FnDegenerate2_t1 N N v4 v20 v12 v15 v18 v1 v2 v3 v23 v24
  exact (show evF (laws_FnDegenerate2_E N) [] Try.f5 [.k (.pair .float (.pair .float .unit)), .k (.pair .float (.pair .float .unit)), .k (.pair .float (.pair .float .unit)), .k .float] [.bool] (v1, v2, v3, v4, ()) = laws_FnDegenerate2_g N v1 v2 v3 v4 (laws_FnDegenerate2_e0 N) (laws_FnDegenerate2_e1 N N) from by kernel_rfl).trans (by rw [h0, h1]; rfl)
noncomputable def laws_FnDegenerate2_con (N : Nat) : Con := ⟨5, [.k (.pair .float (.pair .float .unit)), .k (.pair .float (.pair .float .unit)), .k (.pair .float (.pair .float .unit)), .k .float], [.bool], fun x => laws_FnDegenerate2 N x.1 x.2.1 x.2.2.1 x.2.2.2.1⟩
theorem laws_FnDegenerate2_s (N : Nat) : (laws_FnDegenerate2_con N).Sound Try.prog [] :=
  Con.sound_of (c := laws_FnDegenerate2_con N) (E := (laws_FnDegenerate2_E N)) (idle := []) Try.func5 (by kernel_rfl) (by kernel_rfl) ⟨(allCons (laws_off2_b_s N) (allCons (spec_Grid_s N) (allCons (spec_Differ_s N) (allCons (spec_SquareN_s N) (allCons (laws_squareArea2_s N) (allCons (math_Sqrt_s N) (allCons (math_Abs_s N) (allCons (impl_Degenerate2_s N) allNil)))))))), allNil, rfl⟩ allNil (fun x y h => (laws_FnDegenerate2_t N x.1 x.2.1 x.2.2.1 x.2.2.2.1).trans h)
/-- pub-orthodrome/laws.off3 -/
noncomputable def laws_off3_b_E (N : Nat) : Env := ⟨Try.prog, N, [], [(0, ⟨[], [], [], [], [0], [], none⟩), (1, ⟨[], [], [], [], [1], [1], none⟩)], kdL [(22, .float)], [], [], []⟩
def laws_off3_b_g (N : Nat) (v1 : (Nat × (Nat × (Nat × Unit)))) : Option ((List Nat)) :=
  (some ([v1.1, v1.2.1, v1.2.2.1] : List Nat))
def laws_off3_b (N : Nat) (v1 : (Nat × (Nat × (Nat × Unit)))) : Option ((List Nat)) :=
  laws_off3_b_g N v1
set_option maxRecDepth 100000
theorem laws_off3_b_t (N : Nat) (v1 : (Nat × (Nat × (Nat × Unit)))) : evF (laws_off3_b_E N) [] Try.f33 [.k (.pair .float (.pair .float (.pair .float .unit)))] [(.list .float)] (v1, ()) = laws_off3_b N v1 := by
  exact (show evF (laws_off3_b_E N) [] Try.f33 [.k (.pair .float (.pair .float (.pair .float .unit)))] [(.list .float)] (v1, ()) = laws_off3_b_g N v1 from by kernel_rfl).trans (by rfl)
noncomputable def laws_off3_b_con (N : Nat) : Con := ⟨33, [.k (.pair .float (.pair .float (.pair .float .unit)))], [(.list .float)], fun x => laws_off3_b N x.1⟩
theorem laws_off3_b_s (N : Nat) : (laws_off3_b_con N).Sound Try.prog [] :=
  Con.sound_of (c := laws_off3_b_con N) (E := (laws_off3_b_E N)) (idle := []) Try.func33 (by kernel_rfl) (by kernel_rfl) ⟨allNil, allNil, rfl⟩ allNil (fun x y h => (laws_off3_b_t N x.1).trans h)
/-- pub-orthodrome/laws.squareArea3 -/
noncomputable def laws_squareArea3_E (N : Nat) : Env := ⟨Try.prog, N, [], [(0, ⟨[], [], [], [], [0, 1, 2], [], none⟩), (1, ⟨[], [], [], [], [3, 4, 5], [3, 4, 5], none⟩), (2, ⟨[], [], [], [], [7, 8], [7, 8], none⟩), (3, ⟨[], [], [], [], [9], [9], none⟩)], kdL [], [], [], []⟩
def laws_squareArea3_g (N : Nat) (v1 : (Nat × (Nat × (Nat × Unit)))) (v2 : (Nat × (Nat × (Nat × Unit)))) (v3 : (Nat × (Nat × (Nat × Unit)))) : Option (Nat) :=
  ((Ieee.double.sub v2.1 v1.1).bind fun v4 => (Ieee.double.sub v2.2.1 v1.2.1).bind fun v5 => (Ieee.double.sub v2.2.2.1 v1.2.2.1).bind fun v6 => (Ieee.double.sub v3.1 v1.1).bind fun v7 => (Ieee.double.sub v3.2.1 v1.2.1).bind fun v8 => (Ieee.double.sub v3.2.2.1 v1.2.2.1).bind fun v9 => ((Ieee.double.mul v5 v9).bind fun v10 => (Ieee.double.mul v6 v8).bind fun v11 => (Ieee.double.sub v10 v11).bind fun v12 => (Ieee.double.mul v6 v7).bind fun v13 => (Ieee.double.mul v4 v9).bind fun v14 => (Ieee.double.sub v13 v14).bind fun v15 => (Ieee.double.mul v4 v8).bind fun v16 => (Ieee.double.mul v5 v7).bind fun v17 => (Ieee.double.sub v16 v17).bind fun v18 => ((Ieee.double.mul v12 v12).bind fun v19 => (Ieee.double.mul v15 v15).bind fun v20 => (Ieee.double.add v19 v20).bind fun v21 => (Ieee.double.mul v18 v18).bind fun v22 => (Ieee.double.add v21 v22).bind fun v23 => (Ieee.double.div v23 4616189618054758400).bind fun v24 => (some v24))))
def laws_squareArea3 (N : Nat) (v1 : (Nat × (Nat × (Nat × Unit)))) (v2 : (Nat × (Nat × (Nat × Unit)))) (v3 : (Nat × (Nat × (Nat × Unit)))) : Option (Nat) :=
  laws_squareArea3_g N v1 v2 v3
set_option maxRecDepth 100000
theorem laws_squareArea3_t (N : Nat) (v1 : (Nat × (Nat × (Nat × Unit)))) (v2 : (Nat × (Nat × (Nat × Unit)))) (v3 : (Nat × (Nat × (Nat × Unit)))) : evF (laws_squareArea3_E N) [] Try.f34 [.k (.pair .float (.pair .float (.pair .float .unit))), .k (.pair .float (.pair .float (.pair .float .unit))), .k (.pair .float (.pair .float (.pair .float .unit)))] [.float] (v1, v2, v3, ()) = laws_squareArea3 N v1 v2 v3 := by
  exact (show evF (laws_squareArea3_E N) [] Try.f34 [.k (.pair .float (.pair .float (.pair .float .unit))), .k (.pair .float (.pair .float (.pair .float .unit))), .k (.pair .float (.pair .float (.pair .float .unit)))] [.float] (v1, v2, v3, ()) = laws_squareArea3_g N v1 v2 v3 from by kernel_rfl).trans (by rfl)
noncomputable def laws_squareArea3_con (N : Nat) : Con := ⟨34, [.k (.pair .float (.pair .float (.pair .float .unit))), .k (.pair .float (.pair .float (.pair .float .unit))), .k (.pair .float (.pair .float (.pair .float .unit)))], [.float], fun x => laws_squareArea3 N x.1 x.2.1 x.2.2.1⟩
theorem laws_squareArea3_s (N : Nat) : (laws_squareArea3_con N).Sound Try.prog [] :=
  Con.sound_of (c := laws_squareArea3_con N) (E := (laws_squareArea3_E N)) (idle := []) Try.func34 (by kernel_rfl) (by kernel_rfl) ⟨allNil, allNil, rfl⟩ allNil (fun x y h => (laws_squareArea3_t N x.1 x.2.1 x.2.2.1).trans h)
/-- pub-orthodrome/impl.vec3 -/
noncomputable def impl_vec3_E (N : Nat) : Env := ⟨Try.prog, N, [], [(0, ⟨[], [], [], [], [0], [], none⟩), (1, ⟨[], [], [], [], [1, 2], [1, 2], none⟩)], kdL [], [], [], []⟩
def impl_vec3_g (N : Nat) (v1 : (Nat × (Nat × (Nat × Unit)))) : Option ((Nat × (Nat × (Nat × Unit)))) :=
  (some (v1.1, v1.2.1, v1.2.2.1, ()))
def impl_vec3 (N : Nat) (v1 : (Nat × (Nat × (Nat × Unit)))) : Option ((Nat × (Nat × (Nat × Unit)))) :=
  impl_vec3_g N v1
set_option maxRecDepth 100000
theorem impl_vec3_t (N : Nat) (v1 : (Nat × (Nat × (Nat × Unit)))) : evF (impl_vec3_E N) [] Try.f55 [.k (.pair .float (.pair .float (.pair .float .unit)))] [(.pair .float (.pair .float (.pair .float .unit)))] (v1, ()) = impl_vec3 N v1 := by
  exact (show evF (impl_vec3_E N) [] Try.f55 [.k (.pair .float (.pair .float (.pair .float .unit)))] [(.pair .float (.pair .float (.pair .float .unit)))] (v1, ()) = impl_vec3_g N v1 from by kernel_rfl).trans (by rfl)
noncomputable def impl_vec3_con (N : Nat) : Con := ⟨55, [.k (.pair .float (.pair .float (.pair .float .unit)))], [(.pair .float (.pair .float (.pair .float .unit)))], fun x => impl_vec3 N x.1⟩
theorem impl_vec3_s (N : Nat) : (impl_vec3_con N).Sound Try.prog [] :=
  Con.sound_of (c := impl_vec3_con N) (E := (impl_vec3_E N)) (idle := []) Try.func55 (by kernel_rfl) (by kernel_rfl) ⟨allNil, allNil, rfl⟩ allNil (fun x y h => (impl_vec3_t N x.1).trans h)
/-- pub-orthodrome/pub/gonum/spatial/r3.Sub -/
noncomputable def r3_Sub_E (N : Nat) : Env := ⟨Try.prog, N, [], [(0, ⟨[], [], [], [], [0, 1], [], none⟩), (1, ⟨[], [], [], [], [2, 3, 4], [2, 3, 4], none⟩)], kdL [], [], [], []⟩
def r3_Sub_g (N : Nat) (v1 : (Nat × (Nat × (Nat × Unit)))) (v2 : (Nat × (Nat × (Nat × Unit)))) : Option ((Nat × (Nat × (Nat × Unit)))) :=
  ((Ieee.double.sub v1.1 v2.1).bind fun v3 => (Ieee.double.sub v1.2.1 v2.2.1).bind fun v4 => (Ieee.double.sub v1.2.2.1 v2.2.2.1).bind fun v5 => (some (v3, v4, v5, ())))
def r3_Sub (N : Nat) (v1 : (Nat × (Nat × (Nat × Unit)))) (v2 : (Nat × (Nat × (Nat × Unit)))) : Option ((Nat × (Nat × (Nat × Unit)))) :=
  r3_Sub_g N v1 v2
set_option maxRecDepth 100000
theorem r3_Sub_t (N : Nat) (v1 : (Nat × (Nat × (Nat × Unit)))) (v2 : (Nat × (Nat × (Nat × Unit)))) : evF (r3_Sub_E N) [] Try.f122 [.k (.pair .float (.pair .float (.pair .float .unit))), .k (.pair .float (.pair .float (.pair .float .unit)))] [(.pair .float (.pair .float (.pair .float .unit)))] (v1, v2, ()) = r3_Sub N v1 v2 := by
  exact (show evF (r3_Sub_E N) [] Try.f122 [.k (.pair .float (.pair .float (.pair .float .unit))), .k (.pair .float (.pair .float (.pair .float .unit)))] [(.pair .float (.pair .float (.pair .float .unit)))] (v1, v2, ()) = r3_Sub_g N v1 v2 from by kernel_rfl).trans (by rfl)
noncomputable def r3_Sub_con (N : Nat) : Con := ⟨122, [.k (.pair .float (.pair .float (.pair .float .unit))), .k (.pair .float (.pair .float (.pair .float .unit)))], [(.pair .float (.pair .float (.pair .float .unit)))], fun x => r3_Sub N x.1 x.2.1⟩
theorem r3_Sub_s (N : Nat) : (r3_Sub_con N).Sound Try.prog [] :=
  Con.sound_of (c := r3_Sub_con N) (E := (r3_Sub_E N)) (idle := []) Try.func122 (by kernel_rfl) (by kernel_rfl) ⟨allNil, allNil, rfl⟩ allNil (fun x y h => (r3_Sub_t N x.1 x.2.1).trans h)
/-- pub-orthodrome/pub/gonum/spatial/r3.Norm2 -/
noncomputable def r3_Norm2_E (N : Nat) : Env := ⟨Try.prog, N, [], [(0, ⟨[], [], [], [], [0], [], none⟩), (1, ⟨[], [], [], [], [1], [1], none⟩)], kdL [], [], [], []⟩
def r3_Norm2_g (N : Nat) (v1 : (Nat × (Nat × (Nat × Unit)))) : Option (Nat) :=
  ((Ieee.double.mul v1.1 v1.1).bind fun v2 => (Ieee.double.mul v1.2.1 v1.2.1).bind fun v3 => (Ieee.double.add v2 v3).bind fun v4 => (Ieee.double.mul v1.2.2.1 v1.2.2.1).bind fun v5 => (Ieee.double.add v4 v5).bind fun v6 => (some v6))
def r3_Norm2 (N : Nat) (v1 : (Nat × (Nat × (Nat × Unit)))) : Option (Nat) :=
  r3_Norm2_g N v1
set_option maxRecDepth 100000
theorem r3_Norm2_t (N : Nat) (v1 : (Nat × (Nat × (Nat × Unit)))) : evF (r3_Norm2_E N) [] Try.f57 [.k (.pair .float (.pair .float (.pair .float .unit)))] [.float] (v1, ()) = r3_Norm2 N v1 := by
  exact (show evF (r3_Norm2_E N) [] Try.f57 [.k (.pair .float (.pair .float (.pair .float .unit)))] [.float] (v1, ()) = r3_Norm2_g N v1 from by kernel_rfl).trans (by rfl)
noncomputable def r3_Norm2_con (N : Nat) : Con := ⟨57, [.k (.pair .float (.pair .float (.pair .float .unit)))], [.float], fun x => r3_Norm2 N x.1⟩
theorem r3_Norm2_s (N : Nat) : (r3_Norm2_con N).Sound Try.prog [] :=
  Con.sound_of (c := r3_Norm2_con N) (E := (r3_Norm2_E N)) (idle := []) Try.func57 (by kernel_rfl) (by kernel_rfl) ⟨allNil, allNil, rfl⟩ allNil (fun x y h => (r3_Norm2_t N x.1).trans h)
/-- (pub-orthodrome/pub/gonum/spatial/r3.Triangle).longIdx -/
noncomputable def r3_Triangle_longIdx_E (N : Nat) : Env := ⟨Try.prog, N, [r3_Sub_con N, r3_Norm2_con N], [(0, ⟨[], [], [], [], [0], [], none⟩), (1, ⟨[], [], [], [], [1], [1], none⟩), (2, ⟨[], [], [], [], [3], [3], none⟩), (3, ⟨[], [], [], [], [4], [4], none⟩), (4, ⟨[], [], [], [], [4, 5], [4], none⟩), (5, ⟨[], [], [], [], [4, 5, 6], [4], none⟩), (6, ⟨[], [], [], [], [4, 5, 6, 38], [4], none⟩), (7, ⟨[], [], [], [], [4, 5], [4], none⟩), (8, ⟨[], [], [], [], [4, 5, 6], [4], some N⟩), (9, ⟨[], [], [], [], [6, 44], [], none⟩), (10, ⟨[], [], [], [], [6], [], some N⟩)], kdL [], [], [], []⟩
def r3_Triangle_longIdx_g1 (N : Nat) (v10 : Int) : Option (Int) :=
  (some v10)
def r3_Triangle_longIdx_j1 (N : Nat) (v10 : Int) : Option (Int) :=
  gate N (r3_Triangle_longIdx_g1 N v10)
def r3_Triangle_longIdx_g0 (N : Nat) (v5 : Nat) (v6 : Nat) (v7 : Nat) (c1 : Int → Option (Int)) (v8 : Nat) (v9 : Int) : Option (Int) :=
  (bif (fgt v7 v8) then (c1 2) else (c1 v9))
def r3_Triangle_longIdx_j0 (N : Nat) (v5 : Nat) (v6 : Nat) (v7 : Nat) (v8 : Nat) (v9 : Int) : Option (Int) :=
  gate N (r3_Triangle_longIdx_g0 N v5 v6 v7 (r3_Triangle_longIdx_j1 N) v8 v9)
def r3_Triangle_longIdx_g (N : Nat) (v1 : ((Nat × (Nat × (Nat × Unit))) × ((Nat × (Nat × (Nat × Unit))) × ((Nat × (Nat × (Nat × Unit))) × Unit)))) (c0 : Nat → Nat → Nat → Nat → Int → Option (Int)) : Option (Int) :=
  ((r3_Sub N (v1.2.1.1, v1.2.1.2.1, v1.2.1.2.2.1, ()) (v1.1.1, v1.1.2.1, v1.1.2.2.1, ())).bind fun v2 => (r3_Sub N (v1.2.2.1.1, v1.2.2.1.2.1, v1.2.2.1.2.2.1, ()) (v1.2.1.1, v1.2.1.2.1, v1.2.1.2.2.1, ())).bind fun v3 => (r3_Sub N (v1.1.1, v1.1.2.1, v1.1.2.2.1, ()) (v1.2.2.1.1, v1.2.2.1.2.1, v1.2.2.1.2.2.1, ())).bind fun v4 => ((r3_Norm2 N (v2.1, v2.2.1, v2.2.2.1, ())).bind fun v5 => (r3_Norm2 N (v3.1, v3.2.1, v3.2.2.1, ())).bind fun v6 => (r3_Norm2 N (v4.1, v4.2.1, v4.2.2.1, ())).bind fun v7 => (bif (fgt v6 v5) then (c0 v5 v6 v7 v6 1) else (c0 v5 v6 v7 v5 0))))
def r3_Triangle_longIdx (N : Nat) (v1 : ((Nat × (Nat × (Nat × Unit))) × ((Nat × (Nat × (Nat × Unit))) × ((Nat × (Nat × (Nat × Unit))) × Unit)))) : Option (Int) :=
  r3_Triangle_longIdx_g N v1 (r3_Triangle_longIdx_j0 N)
set_option maxRecDepth 100000
noncomputable def r3_Triangle_longIdx_e1 (N : Nat) (v10 : Int) : Option (HR [(.int .i64)]) :=
  gate N (evC (r3_Triangle_longIdx_E N) (codeAt (bodyOf Try.f105) [1, 1, 1, 1, 1, 1, 1]) ⟨[(6, .pv (.int .i64) v10)], [], []⟩ (kEnd (r3_Triangle_longIdx_E N) [] Try.f105.results.toList [(.int .i64)]))
noncomputable def r3_Triangle_longIdx_e0 (N : Nat) (v5 : Nat) (v6 : Nat) (v7 : Nat) (v8 : Nat) (v9 : Int) : Option (HR [(.int .i64)]) :=
  gate N (evC (r3_Triangle_longIdx_E N) (codeAt (bodyOf Try.f105) [1, 1, 1, 1, 1, 1]) ⟨[(4, .ref 4 0), (5, .pv .float v8), (6, .pv (.int .i64) v9)], [(4, .box [.pv .float v5, .pv .float v6, .pv .float v7])], []⟩ (kEnd (r3_Triangle_longIdx_E N) [] Try.f105.results.toList [(.int .i64)]))
theorem r3_Triangle_longIdx_t1 (N : Nat) (v10 : Int) : r3_Triangle_longIdx_e1 N v10 = r3_Triangle_longIdx_j1 N v10 := by
  exact (congrArg (gate N) (show evC (r3_Triangle_longIdx_E N) (codeAt (bodyOf Try.f105) [1, 1, 1, 1, 1, 1, 1]) ⟨[(6, .pv (.int .i64) v10)], [], []⟩ (kEnd (r3_Triangle_longIdx_E N) [] Try.f105.results.toList [(.int .i64)]) = r3_Triangle_longIdx_g1 N v10 from by kernel_rfl)).trans (by rfl)
theorem r3_Triangle_longIdx_t0 (N : Nat) (v5 : Nat) (v6 : Nat) (v7 : Nat) (v8 : Nat) (v9 : Int) : r3_Triangle_longIdx_e0 N v5 v6 v7 v8 v9 = r3_Triangle_longIdx_j0 N v5 v6 v7 v8 v9 := by
  have h1 : (r3_Triangle_longIdx_e1 N) = (r3_Triangle_longIdx_j1 N) := by funext v10; exact r3_Triangle_longIdx_t1 N v10
  exact (congrArg (gate N) (show evC (r3_Triangle_longIdx_E N) (codeAt (bodyOf Try.f105) [1, 1, 1, 1, 1, 1]) ⟨[(4, .ref 4 0), (5, .pv .float v8), (6, .pv (.int .i64) v9)], [(4, .box [.pv .float v5, .pv .float v6, .pv .float v7])], []⟩ (kEnd (r3_Triangle_longIdx_E N) [] Try.f105.results.toList [(.int .i64)]) = r3_Triangle_longIdx_g0 N v5 v6 v7 (r3_Triangle_longIdx_e1 N) v8 v9 from by kernel_rfl)).trans (by rw [h1]; rfl)
theorem r3_Triangle_longIdx_t (N : Nat) (v1 : ((Nat × (Nat × (Nat × Unit))) × ((Nat × (Nat × (Nat × Unit))) × ((Nat × (Nat × (Nat × Unit))) × Unit)))) : evF (r3_Triangle_longIdx_E N) [] Try.f105 [.k (.pair (.pair .float (.pair .float (.pair .float .unit))) (.pair (.pair .float (.pair .float (.pair .float .unit))) (.pair (.pair .float (.pair .float (.pair .float .unit))) .unit)))] [(.int .i64)] (v1, ()) = r3_Triangle_longIdx N v1 := by
  have h0 : (r3_Triangle_longIdx_e0 N) = (r3_Triangle_longIdx_j0 N) := by funext v5 v6 v7 v8 v9; exact r3_Triangle_longIdx_t0 N v5 v6 v7 v8 v9
  exact (show evF (r3_Triangle_longIdx_E N) [] Try.f105 [.k (.pair (.pair .float (.pair .float (.pair .float .unit))) (.pair (.pair .float (.pair .float (.pair .float .unit))) (.pair (.pair .float (.pair .float (.pair .float .unit))) .unit)))] [(.int .i64)] (v1, ()) = r3_Triangle_longIdx_g N v1 (r3_Triangle_longIdx_e0 N) from by kernel_rfl).trans (by rw [h0]; rfl)
noncomputable def r3_Triangle_longIdx_con (N : Nat) : Con := ⟨105, [.k (.pair (.pair .float (.pair .float (.pair .float .unit))) (.pair (.pair .float (.pair .float (.pair .float .unit))) (.pair (.pair .float (.pair .float (.pair .float .unit))) .unit)))], [(.int .i64)], fun x => r3_Triangle_longIdx N x.1⟩
theorem r3_Triangle_longIdx_s (N : Nat) : (r3_Triangle_longIdx_con N).Sound Try.prog [] :=
  Con.sound_of (c := r3_Triangle_longIdx_con N) (E := (r3_Triangle_longIdx_E N)) (idle := []) Try.func105 (by kernel_rfl) (by kernel_rfl) ⟨(allCons (r3_Sub_s N) (allCons (r3_Norm2_s N) allNil)), allNil, rfl⟩ allNil (fun x y h => (r3_Triangle_longIdx_t N x.1).trans h)
/-- pub-orthodrome/pub/gonum/spatial/r3.Cross -/
noncomputable def r3_Cross_E (N : Nat) : Env := ⟨Try.prog, N, [], [(0, ⟨[], [], [], [], [0, 1], [], none⟩), (1, ⟨[], [], [], [], [2, 3, 4], [2, 3, 4], none⟩)], kdL [], [], [], []⟩
def r3_Cross_g (N : Nat) (v1 : (Nat × (Nat × (Nat × Unit)))) (v2 : (Nat × (Nat × (Nat × Unit)))) : Option ((Nat × (Nat × (Nat × Unit)))) :=
  ((Ieee.double.mul v1.2.1 v2.2.2.1).bind fun v3 => (Ieee.double.mul v1.2.2.1 v2.2.1).bind fun v4 => (Ieee.double.sub v3 v4).bind fun v5 => (Ieee.double.mul v1.2.2.1 v2.1).bind fun v6 => (Ieee.double.mul v1.1 v2.2.2.1).bind fun v7 => (Ieee.double.sub v6 v7).bind fun v8 => (Ieee.double.mul v1.1 v2.2.1).bind fun v9 => (Ieee.double.mul v1.2.1 v2.1).bind fun v10 => (Ieee.double.sub v9 v10).bind fun v11 => (some (v5, v8, v11, ())))
def r3_Cross (N : Nat) (v1 : (Nat × (Nat × (Nat × Unit)))) (v2 : (Nat × (Nat × (Nat × Unit)))) : Option ((Nat × (Nat × (Nat × Unit)))) :=
  r3_Cross_g N v1 v2
set_option maxRecDepth 100000
theorem r3_Cross_t (N : Nat) (v1 : (Nat × (Nat × (Nat × Unit)))) (v2 : (Nat × (Nat × (Nat × Unit)))) : evF (r3_Cross_E N) [] Try.f123 [.k (.pair .float (.pair .float (.pair .float .unit))), .k (.pair .float (.pair .float (.pair .float .unit)))] [(.pair .float (.pair .float (.pair .float .unit)))] (v1, v2, ()) = r3_Cross N v1 v2 := by
  exact (show evF (r3_Cross_E N) [] Try.f123 [.k (.pair .float (.pair .float (.pair .float .unit))), .k (.pair .float (.pair .float (.pair .float .unit)))] [(.pair .float (.pair .float (.pair .float .unit)))] (v1, v2, ()) = r3_Cross_g N v1 v2 from by kernel_rfl).trans (by rfl)
noncomputable def r3_Cross_con (N : Nat) : Con := ⟨123, [.k (.pair .float (.pair .float (.pair .float .unit))), .k (.pair .float (.pair .float (.pair .float .unit)))], [(.pair .float (.pair .float (.pair .float .unit)))], fun x => r3_Cross N x.1 x.2.1⟩
theorem r3_Cross_s (N : Nat) : (r3_Cross_con N).Sound Try.prog [] :=
  Con.sound_of (c := r3_Cross_con N) (E := (r3_Cross_E N)) (idle := []) Try.func123 (by kernel_rfl) (by kernel_rfl) ⟨allNil, allNil, rfl⟩ allNil (fun x y h => (r3_Cross_t N x.1 x.2.1).trans h)
/-- pub-orthodrome/pub/gonum/spatial/r3.Norm -/
noncomputable def r3_Norm_E (N : Nat) : Env := ⟨Try.prog, N, [math_Hypot_con N], [(0, ⟨[], [], [], [], [0], [], none⟩), (1, ⟨[], [], [], [], [1], [1], none⟩)], kdL [], [], [], []⟩
def r3_Norm_g (N : Nat) (v1 : (Nat × (Nat × (Nat × Unit)))) : Option (Nat) :=
  ((math_Hypot N v1.2.1 v1.2.2.1).bind fun v2 => (math_Hypot N v1.1 v2).bind fun v3 => (some v3))
def r3_Norm (N : Nat) (v1 : (Nat × (Nat × (Nat × Unit)))) : Option (Nat) :=
  r3_Norm_g N v1
set_option maxRecDepth 100000
theorem r3_Norm_t (N : Nat) (v1 : (Nat × (Nat × (Nat × Unit)))) : evF (r3_Norm_E N) [] Try.f56 [.k (.pair .float (.pair .float (.pair .float .unit)))] [.float] (v1, ()) = r3_Norm N v1 := by
  exact (show evF (r3_Norm_E N) [] Try.f56 [.k (.pair .float (.pair .float (.pair .float .unit)))] [.float] (v1, ()) = r3_Norm_g N v1 from by kernel_rfl).trans (by rfl)
noncomputable def r3_Norm_con (N : Nat) : Con := ⟨56, [.k (.pair .float (.pair .float (.pair .float .unit)))], [.float], fun x => r3_Norm N x.1⟩
theorem r3_Norm_s (N : Nat) : (r3_Norm_con N).Sound Try.prog [] :=
  Con.sound_of (c := r3_Norm_con N) (E := (r3_Norm_E N)) (idle := []) Try.func56 (by kernel_rfl) (by kernel_rfl) ⟨(allCons (math_Hypot_s N) allNil), allNil, rfl⟩ allNil (fun x y h => (r3_Norm_t N x.1).trans h)
/-- (pub-orthodrome/pub/gonum/spatial/r3.line).distance -/
noncomputable def r3_line_distance_E (N : Nat) : Env := ⟨Try.prog, N, [r3_Sub_con N, r3_Cross_con N, r3_Norm_con N], [(0, ⟨[], [], [], [], [0, 1], [], none⟩), (1, ⟨[], [], [], [], [2, 3], [2, 3], none⟩), (2, ⟨[], [], [], [], [2, 5], [2], none⟩)], kdL [], [], [], []⟩
def r3_line_distance_g (N : Nat) (v1 : ((Nat × (Nat × (Nat × Unit))) × ((Nat × (Nat × (Nat × Unit))) × Unit))) (v2 : (Nat × (Nat × (Nat × Unit)))) : Option (Nat) :=
  ((r3_Sub N (v2.1, v2.2.1, v2.2.2.1, ()) (v1.1.1, v1.1.2.1, v1.1.2.2.1, ())).bind fun v3 => (r3_Sub N (v2.1, v2.2.1, v2.2.2.1, ()) (v1.2.1.1, v1.2.1.2.1, v1.2.1.2.2.1, ())).bind fun v4 => (r3_Cross N v3 v4).bind fun v5 => (r3_Norm N v5).bind fun v6 => ((r3_Sub N (v1.2.1.1, v1.2.1.2.1, v1.2.1.2.2.1, ()) (v1.1.1, v1.1.2.1, v1.1.2.2.1, ())).bind fun v7 => (r3_Norm N v7).bind fun v8 => (Ieee.double.div v6 v8).bind fun v9 => (some v9)))
def r3_line_distance (N : Nat) (v1 : ((Nat × (Nat × (Nat × Unit))) × ((Nat × (Nat × (Nat × Unit))) × Unit))) (v2 : (Nat × (Nat × (Nat × Unit)))) : Option (Nat) :=
  r3_line_distance_g N v1 v2
set_option maxRecDepth 100000
theorem r3_line_distance_t (N : Nat) (v1 : ((Nat × (Nat × (Nat × Unit))) × ((Nat × (Nat × (Nat × Unit))) × Unit))) (v2 : (Nat × (Nat × (Nat × Unit)))) : evF (r3_line_distance_E N) [] Try.f106 [.k (.pair (.pair .float (.pair .float (.pair .float .unit))) (.pair (.pair .float (.pair .float (.pair .float .unit))) .unit)), .k (.pair .float (.pair .float (.pair .float .unit)))] [.float] (v1, v2, ()) = r3_line_distance N v1 v2 := by
  exact (show evF (r3_line_distance_E N) [] Try.f106 [.k (.pair (.pair .float (.pair .float (.pair .float .unit))) (.pair (.pair .float (.pair .float (.pair .float .unit))) .unit)), .k (.pair .float (.pair .float (.pair .float .unit)))] [.float] (v1, v2, ()) = r3_line_distance_g N v1 v2 from by kernel_rfl).trans (by rfl)
noncomputable def r3_line_distance_con (N : Nat) : Con := ⟨106, [.k (.pair (.pair .float (.pair .float (.pair .float .unit))) (.pair (.pair .float (.pair .float (.pair .float .unit))) .unit)), .k (.pair .float (.pair .float (.pair .float .unit)))], [.float], fun x => r3_line_distance N x.1 x.2.1⟩
theorem r3_line_distance_s (N : Nat) : (r3_line_distance_con N).Sound Try.prog [] :=
  Con.sound_of (c := r3_line_distance_con N) (E := (r3_line_distance_E N)) (idle := []) Try.func106 (by kernel_rfl) (by kernel_rfl) ⟨(allCons (r3_Sub_s N) (allCons (r3_Cross_s N) (allCons (r3_Norm_s N) allNil))), allNil, rfl⟩ allNil (fun x y h => (r3_line_distance_t N x.1 x.2.1).trans h)
/-- (pub-orthodrome/pub/gonum/spatial/r3.Triangle).IsDegenerate -/
noncomputable def r3_Triangle_IsDegenerate_E (N : Nat) : Env := ⟨Try.prog, N, [r3_Triangle_longIdx_con N, r3_line_distance_con N], [(0, ⟨[], [], [], [], [0, 1], [], none⟩), (1, ⟨[], [], [], [], [1, 2], [2], none⟩), (2, ⟨[], [], [], [], [1, 2, 5], [2], none⟩), (3, ⟨[], [], [], [], [1, 2, 5, 6], [2, 6], some N⟩), (4, ⟨[], [], [], [], [1, 7], [], some N⟩)], kdL [], [], [], []⟩
def r3_Triangle_IsDegenerate_g1 (N : Nat) (v2 : Nat) (v13 : Nat) : Option (Bool) :=
  (some (fle v13 v2))
def r3_Triangle_IsDegenerate_j1 (N : Nat) (v2 : Nat) (v13 : Nat) : Option (Bool) :=
  gate N (r3_Triangle_IsDegenerate_g1 N v2 v13)
def r3_Triangle_IsDegenerate_g0 (N : Nat) (v2 : Nat) (v3 : Int) (v1 : ((Nat × (Nat × (Nat × Unit))) × ((Nat × (Nat × (Nat × Unit))) × ((Nat × (Nat × (Nat × Unit))) × Unit)))) (c1 : Nat → Nat → Option (Bool)) (v4 : Nat) (v5 : Nat) (v6 : Nat) (v7 : Nat) (v8 : Nat) (v9 : Nat) : Option (Bool) :=
  (bif (decide ((Int.tmod (IntKind.i64.wrap (v3 + 2)) 3) = ((0 : Nat) : Int))) then ((r3_line_distance N ((v4, v5, v6, ()), (v7, v8, v9, ()), ()) (v1.1.1, v1.1.2.1, v1.1.2.2.1, ())).bind fun v12 => (c1 v2 v12)) else (bif (decide ((Int.tmod (IntKind.i64.wrap (v3 + 2)) 3) = ((1 : Nat) : Int))) then ((r3_line_distance N ((v4, v5, v6, ()), (v7, v8, v9, ()), ()) (v1.2.1.1, v1.2.1.2.1, v1.2.1.2.2.1, ())).bind fun v11 => (c1 v2 v11)) else (bif (decide ((Int.tmod (IntKind.i64.wrap (v3 + 2)) 3) = ((2 : Nat) : Int))) then ((r3_line_distance N ((v4, v5, v6, ()), (v7, v8, v9, ()), ()) (v1.2.2.1.1, v1.2.2.1.2.1, v1.2.2.1.2.2.1, ())).bind fun v10 => (c1 v2 v10)) else none)))
def r3_Triangle_IsDegenerate_j0 (N : Nat) (v2 : Nat) (v3 : Int) (v1 : ((Nat × (Nat × (Nat × Unit))) × ((Nat × (Nat × (Nat × Unit))) × ((Nat × (Nat × (Nat × Unit))) × Unit)))) (v4 : Nat) (v5 : Nat) (v6 : Nat) (v7 : Nat) (v8 : Nat) (v9 : Nat) : Option (Bool) :=
  gate N (r3_Triangle_IsDegenerate_g0 N v2 v3 v1 (r3_Triangle_IsDegenerate_j1 N) v4 v5 v6 v7 v8 v9)
def r3_Triangle_IsDegenerate_g (N : Nat) (v1 : ((Nat × (Nat × (Nat × Unit))) × ((Nat × (Nat × (Nat × Unit))) × ((Nat × (Nat × (Nat × Unit))) × Unit)))) (v2 : Nat) (c0 : Nat → Int → ((Nat × (Nat × (Nat × Unit))) × ((Nat × (Nat × (Nat × Unit))) × ((Nat × (Nat × (Nat × Unit))) × Unit))) → Nat → Nat → Nat → Nat → Nat → Nat → Option (Bool)) : Option (Bool) :=
  ((r3_Triangle_longIdx N ((v1.1.1, v1.1.2.1, v1.1.2.2.1, ()), (v1.2.1.1, v1.2.1.2.1, v1.2.1.2.2.1, ()), (v1.2.2.1.1, v1.2.2.1.2.1, v1.2.2.1.2.2.1, ()), ())).bind fun v3 => (bif (decide (v3 = ((0 : Nat) : Int))) then (bif (decide ((Int.tmod (IntKind.i64.wrap (v3 + 1)) 3) = ((0 : Nat) : Int))) then (c0 v2 v3 v1 v1.1.1 v1.1.2.1 v1.1.2.2.1 v1.1.1 v1.1.2.1 v1.1.2.2.1) else (bif (decide ((Int.tmod (IntKind.i64.wrap (v3 + 1)) 3) = ((1 : Nat) : Int))) then (c0 v2 v3 v1 v1.1.1 v1.1.2.1 v1.1.2.2.1 v1.2.1.1 v1.2.1.2.1 v1.2.1.2.2.1) else (bif (decide ((Int.tmod (IntKind.i64.wrap (v3 + 1)) 3) = ((2 : Nat) : Int))) then (c0 v2 v3 v1 v1.1.1 v1.1.2.1 v1.1.2.2.1 v1.2.2.1.1 v1.2.2.1.2.1 v1.2.2.1.2.2.1) else none))) else (bif (decide (v3 = ((1 : Nat) : Int))) then (bif (decide ((Int.tmod (IntKind.i64.wrap (v3 + 1)) 3) = ((0 : Nat) : Int))) then (c0 v2 v3 v1 v1.2.1.1 v1.2.1.2.1 v1.2.1.2.2.1 v1.1.1 v1.1.2.1 v1.1.2.2.1) else (bif (decide ((Int.tmod (IntKind.i64.wrap (v3 + 1)) 3) = ((1 : Nat) : Int))) then (c0 v2 v3 v1 v1.2.1.1 v1.2.1.2.1 v1.2.1.2.2.1 v1.2.1.1 v1.2.1.2.1 v1.2.1.2.2.1) else (bif (decide ((Int.tmod (IntKind.i64.wrap (v3 + 1)) 3) = ((2 : Nat) : Int))) then (c0 v2 v3 v1 v1.2.1.1 v1.2.1.2.1 v1.2.1.2.2.1 v1.2.2.1.1 v1.2.2.1.2.1 v1.2.2.1.2.2.1) else none))) else (bif (decide (v3 = ((2 : Nat) : Int))) then (bif (decide ((Int.tmod (IntKind.i64.wrap (v3 + 1)) 3) = ((0 : Nat) : Int))) then (c0 v2 v3 v1 v1.2.2.1.1 v1.2.2.1.2.1 v1.2.2.1.2.2.1 v1.1.1 v1.1.2.1 v1.1.2.2.1) else (bif (decide ((Int.tmod (IntKind.i64.wrap (v3 + 1)) 3) = ((1 : Nat) : Int))) then (c0 v2 v3 v1 v1.2.2.1.1 v1.2.2.1.2.1 v1.2.2.1.2.2.1 v1.2.1.1 v1.2.1.2.1 v1.2.1.2.2.1) else (bif (decide ((Int.tmod (IntKind.i64.wrap (v3 + 1)) 3) = ((2 : Nat) : Int))) then (c0 v2 v3 v1 v1.2.2.1.1 v1.2.2.1.2.1 v1.2.2.1.2.2.1 v1.2.2.1.1 v1.2.2.1.2.1 v1.2.2.1.2.2.1) else none))) else none))))
def r3_Triangle_IsDegenerate (N : Nat) (v1 : ((Nat × (Nat × (Nat × Unit))) × ((Nat × (Nat × (Nat × Unit))) × ((Nat × (Nat × (Nat × Unit))) × Unit)))) (v2 : Nat) : Option (Bool) :=
  r3_Triangle_IsDegenerate_g N v1 v2 (r3_Triangle_IsDegenerate_j0 N)
set_option maxRecDepth 100000
noncomputable def r3_Triangle_IsDegenerate_e1 (N : Nat) (v2 : Nat) (v13 : Nat) : Option (HR [.bool]) :=
  gate N (evC (r3_Triangle_IsDegenerate_E N) (codeAt (bodyOf Try.f73) [1, 1, 1, 1]) ⟨[(1, .pv .float v2), (7, .pv .float v13)], [], []⟩ (kEnd (r3_Triangle_IsDegenerate_E N) [] Try.f73.results.toList [.bool]))
noncomputable def r3_Triangle_IsDegenerate_e0 (N : Nat) (v2 : Nat) (v3 : Int) (v1 : ((Nat × (Nat × (Nat × Unit))) × ((Nat × (Nat × (Nat × Unit))) × ((Nat × (Nat × (Nat × Unit))) × Unit)))) (v4 : Nat) (v5 : Nat) (v6 : Nat) (v7 : Nat) (v8 : Nat) (v9 : Nat) : Option (HR [.bool]) :=
  gate N (evC (r3_Triangle_IsDegenerate_E N) (codeAt (bodyOf Try.f73) [1, 1, 1]) ⟨[(1, .pv .float v2), (2, .ref 2 0), (5, .pv (.int .i64) v3), (6, .ref 6 0)], [(2, .box [.pv .float v1.1.1, .pv .float v1.1.2.1, .pv .float v1.1.2.2.1, .pv .float v1.2.1.1, .pv .float v1.2.1.2.1, .pv .float v1.2.1.2.2.1, .pv .float v1.2.2.1.1, .pv .float v1.2.2.1.2.1, .pv .float v1.2.2.1.2.2.1]), (6, .box [.pv .float v4, .pv .float v5, .pv .float v6, .pv .float v7, .pv .float v8, .pv .float v9])], []⟩ (kEnd (r3_Triangle_IsDegenerate_E N) [] Try.f73.results.toList [.bool]))
theorem r3_Triangle_IsDegenerate_t1 (N : Nat) (v2 : Nat) (v13 : Nat) : r3_Triangle_IsDegenerate_e1 N v2 v13 = r3_Triangle_IsDegenerate_j1 N v2 v13 := by
  exact (congrArg (gate N) (show evC (r3_Triangle_IsDegenerate_E N) (codeAt (bodyOf Try.f73) [1, 1, 1, 1]) ⟨[(1, .pv .float v2), (7, .pv .float v13)], [], []⟩ (kEnd (r3_Triangle_IsDegenerate_E N) [] Try.f73.results.toList [.bool]) = r3_Triangle_IsDegenerate_g1 N v2 v13 from by kernel_rfl)).trans (by rfl)
theorem r3_Triangle_IsDegenerate_t0 (N : Nat) (v2 : Nat) (v3 : Int) (v1 : ((Nat × (Nat × (Nat × Unit))) × ((Nat × (Nat × (Nat × Unit))) × ((Nat × (Nat × (Nat × Unit))) × Unit)))) (v4 : Nat) (v5 : Nat) (v6 : Nat) (v7 : Nat) (v8 : Nat) (v9 : Nat) : r3_Triangle_IsDegenerate_e0 N v2 v3 v1 v4 v5 v6 v7 v8 v9 = r3_Triangle_IsDegenerate_j0 N v2 v3 v1 v4 v5 v6 v7 v8 v9 := by
  have h1 : (r3_Triangle_IsDegenerate_e1 N) = (r3_Triangle_IsDegenerate_j1 N) := by funext v2 v13; exact r3_Triangle_IsDegenerate_t1 N v2 v13
  exact (congrArg (gate N) (show evC (r3_Triangle_IsDegenerate_E N) (codeAt (bodyOf Try.f73) [1, 1, 1]) ⟨[(1, .pv .float v2), (2, .ref 2 0), (5, .pv (.int .i64) v3), (6, .ref 6 0)], [(2, .box [.pv .float v1.1.1, .pv .float v1.1.2.1, .pv .float v1.1.2.2.1, .pv .float v1.2.1.1, .pv .float v1.2.1.2.1, .pv .float v1.2.1.2.2.1, .pv .float v1.2.2.1.1, .pv .float v1.2.2.1.2.1, .pv .float v1.2.2.1.2.2.1]), (6, .box [.pv .float v4, .pv .float v5, .pv .float v6, .pv .float v7, .pv .float v8, .pv .float v9])], []⟩ (kEnd (r3_Triangle_IsDegenerate_E N) [] Try.f73.results.toList [.bool]) = r3_Triangle_IsDegenerate_g0 N v2 v3 v1 (r3_Triangle_IsDegenerate_e1 N) v4 v5 v6 v7 v8 v9 from by kernel_rfl)).trans (by rw [h1]; rfl)
theorem r3_Triangle_IsDegenerate_t (N : Nat) (v1 : ((Nat × (Nat × (Nat × Unit))) × ((Nat × (Nat × (Nat × Unit))) × ((Nat × (Nat × (Nat × Unit))) × Unit)))) (v2 : Nat) : evF (r3_Triangle_IsDegenerate_E N) [] Try.f73 [.k (.pair (.pair .float (.pair .float (.pair .float .unit))) (.pair (.pair .float (.pair .float (.pair .float .unit))) (.pair (.pair .float (.pair .float (.pair .float .unit))) .unit))), .k .float] [.bool] (v1, v2, ()) = r3_Triangle_IsDegenerate N v1 v2 := by
  have h0 : (r3_Triangle_IsDegenerate_e0 N) = (r3_Triangle_IsDegenerate_j0 N) := by funext v2 v3 v1 v4 v5 v6 v7 v8 v9; exact r3_Triangle_IsDegenerate_t0 N v2 v3 v1 v4 v5 v6 v7 v8 v9
  exact (show evF (r3_Triangle_IsDegenerate_E N) [] Try.f73 [.k (.pair (.pair .float (.pair .float (.pair .float .unit))) (.pair (.pair .float (.pair .float (.pair .float .unit))) (.pair (.pair .float (.pair .float (.pair .float .unit))) .unit))), .k .float] [.bool] (v1, v2, ()) = r3_Triangle_IsDegenerate_g N v1 v2 (r3_Triangle_IsDegenerate_e0 N) from by kernel_rfl).trans (by rw [h0]; rfl)
noncomputable def r3_Triangle_IsDegenerate_con (N : Nat) : Con := ⟨73, [.k (.pair (.pair .float (.pair .float (.pair .float .unit))) (.pair (.pair .float (.pair .float (.pair .float .unit))) (.pair (.pair .float (.pair .float (.pair .float .unit))) .unit))), .k .float], [.bool], fun x => r3_Triangle_IsDegenerate N x.1 x.2.1⟩
theorem r3_Triangle_IsDegenerate_s (N : Nat) : (r3_Triangle_IsDegenerate_con N).Sound Try.prog [] :=
  Con.sound_of (c := r3_Triangle_IsDegenerate_con N) (E := (r3_Triangle_IsDegenerate_E N)) (idle := []) Try.func73 (by kernel_rfl) (by kernel_rfl) ⟨(allCons (r3_Triangle_longIdx_s N) (allCons (r3_line_distance_s N) allNil)), allNil, rfl⟩ allNil (fun x y h => (r3_Triangle_IsDegenerate_t N x.1 x.2.1).trans h)
/-- pub-orthodrome/impl.Degenerate3 -/
noncomputable def impl_Degenerate3_E (N : Nat) : Env := ⟨Try.prog, N, [impl_vec3_con N, r3_Triangle_IsDegenerate_con N], [(0, ⟨[], [], [], [], [0, 1, 2, 3], [], none⟩), (1, ⟨[], [], [], [], [3, 4, 5, 6], [4, 5, 6], none⟩)], kdL [], [], [], []⟩
def impl_Degenerate3_g (N : Nat) (v1 : (Nat × (Nat × (Nat × Unit)))) (v2 : (Nat × (Nat × (Nat × Unit)))) (v3 : (Nat × (Nat × (Nat × Unit)))) (v4 : Nat) : Option (Bool) :=
  ((impl_vec3 N (v1.1, v1.2.1, v1.2.2.1, ())).bind fun v5 => (impl_vec3 N (v2.1, v2.2.1, v2.2.2.1, ())).bind fun v6 => (impl_vec3 N (v3.1, v3.2.1, v3.2.2.1, ())).bind fun v7 => (r3_Triangle_IsDegenerate N ((v5.1, v5.2.1, v5.2.2.1, ()), (v6.1, v6.2.1, v6.2.2.1, ()), (v7.1, v7.2.1, v7.2.2.1, ()), ()) v4).bind fun v8 => (some v8))
def impl_Degenerate3 (N : Nat) (v1 : (Nat × (Nat × (Nat × Unit)))) (v2 : (Nat × (Nat × (Nat × Unit)))) (v3 : (Nat × (Nat × (Nat × Unit)))) (v4 : Nat) : Option (Bool) :=
  impl_Degenerate3_g N v1 v2 v3 v4
set_option maxRecDepth 100000
theorem impl_Degenerate3_t (N : Nat) (v1 : (Nat × (Nat × (Nat × Unit)))) (v2 : (Nat × (Nat × (Nat × Unit)))) (v3 : (Nat × (Nat × (Nat × Unit)))) (v4 : Nat) : evF (impl_Degenerate3_E N) [] Try.f35 [.k (.pair .float (.pair .float (.pair .float .unit))), .k (.pair .float (.pair .float (.pair .float .unit))), .k (.pair .float (.pair .float (.pair .float .unit))), .k .float] [.bool] (v1, v2, v3, v4, ()) = impl_Degenerate3 N v1 v2 v3 v4 := by
  exact (show evF (impl_Degenerate3_E N) [] Try.f35 [.k (.pair .float (.pair .float (.pair .float .unit))), .k (.pair .float (.pair .float (.pair .float .unit))), .k (.pair .float (.pair .float (.pair .float .unit))), .k .float] [.bool] (v1, v2, v3, v4, ()) = impl_Degenerate3_g N v1 v2 v3 v4 from by kernel_rfl).trans (by rfl)
noncomputable def impl_Degenerate3_con (N : Nat) : Con := ⟨35, [.k (.pair .float (.pair .float (.pair .float .unit))), .k (.pair .float (.pair .float (.pair .float .unit))), .k (.pair .float (.pair .float (.pair .float .unit))), .k .float], [.bool], fun x => impl_Degenerate3 N x.1 x.2.1 x.2.2.1 x.2.2.2.1⟩
theorem impl_Degenerate3_s (N : Nat) : (impl_Degenerate3_con N).Sound Try.prog [] :=
  Con.sound_of (c := impl_Degenerate3_con N) (E := (impl_Degenerate3_E N)) (idle := []) Try.func35 (by kernel_rfl) (by kernel_rfl) ⟨(allCons (impl_vec3_s N) (allCons (r3_Triangle_IsDegenerate_s N) allNil)), allNil, rfl⟩ allNil (fun x y h => (impl_Degenerate3_t N x.1 x.2.1 x.2.2.1 x.2.2.2.1).trans h)
/-- pub-orthodrome/laws.FnDegenerate3 -/
noncomputable def laws_FnDegenerate3_E (N : Nat) : Env := ⟨Try.prog, N, [laws_off3_b_con N, spec_Grid_con N, spec_Differ_con N, spec_SquareN_con N, laws_squareArea3_con N, math_Sqrt_con N, math_Abs_con N, impl_Degenerate3_con N], [(0, ⟨[], [], [], [], [0, 1, 2, 3], [], none⟩), (1, ⟨[], [], [], [], [3, 4, 5, 6], [4, 5, 6], none⟩), (2, ⟨[], [], [], [], [3, 4, 5, 6, 9], [4, 5, 6], none⟩), (3, ⟨[], [], [], [], [3, 4, 5, 6, 9, 39], [4, 5, 6], some N⟩), (4, ⟨[], [], [], [], [3, 4, 5, 6, 9], [4, 5, 6], none⟩), (5, ⟨[], [], [], [], [3, 4, 5, 6, 10], [4, 5, 6, 10], none⟩), (6, ⟨[], [], [], [], [3, 4, 5, 6, 10, 11, 12], [4, 5, 6, 10], none⟩), (7, ⟨[], [], [], [], [3, 4, 5, 6, 11, 12, 69, 70], [4, 5, 6], none⟩), (8, ⟨[], [], [], [], [3, 4, 5, 6, 11, 12, 69, 70], [4, 5, 6], none⟩), (9, ⟨[], [], [], [], [3, 4, 5, 6, 11, 12, 14, 69, 70], [4, 5, 6], none⟩), (10, ⟨[], [], [], [], [3, 4, 5, 6, 11, 12, 69, 70, 75], [4, 5, 6], none⟩), (11, ⟨[], [], [], [], [3, 4, 5, 6, 11, 12, 69, 70], [4, 5, 6], some N⟩), (12, ⟨[], [], [], [], [3, 4, 5, 6, 11, 12], [4, 5, 6], none⟩), (13, ⟨[], [], [], [], [3, 4, 5, 6, 12, 15], [4, 5, 6], none⟩), (14, ⟨[], [], [], [], [3, 4, 5, 6, 15, 95], [4, 5, 6], none⟩), (15, ⟨[], [], [], [], [3, 4, 5, 6, 15], [4, 5, 6], none⟩)], kdL [(22, .float), (36, (.list .float))], [], [], []⟩
def laws_FnDegenerate3_g0 (N : Nat) (v4 : Nat) (v5 : (List Nat)) (v6 : (List Nat)) (v7 : (List Nat)) (v1 : (Nat × (Nat × (Nat × Unit)))) (v2 : (Nat × (Nat × (Nat × Unit)))) (v3 : (Nat × (Nat × (Nat × Unit)))) : Option (Bool) :=
  (some true)
def laws_FnDegenerate3_j0 (N : Nat) (v4 : Nat) (v5 : (List Nat)) (v6 : (List Nat)) (v7 : (List Nat)) (v1 : (Nat × (Nat × (Nat × Unit)))) (v2 : (Nat × (Nat × (Nat × Unit)))) (v3 : (Nat × (Nat × (Nat × Unit)))) : Option (Bool) :=
  gate N (laws_FnDegenerate3_g0 N v4 v5 v6 v7 v1 v2 v3)
def laws_FnDegenerate3_g2 (N : Nat) (v4 : Nat) (v20 : Nat) (v12 : Nat) (v15 : Nat) (v18 : Nat) (v1 : (Nat × (Nat × (Nat × Unit)))) (v2 : (Nat × (Nat × (Nat × Unit)))) (v3 : (Nat × (Nat × (Nat × Unit)))) (v24 : Int) (r1 : Int → Int → Option (Bool)) (v26 : Int) : Option (Bool) :=
  (r1 v26 (IntKind.i64.wrap (v24 + 1)))
def laws_FnDegenerate3_j2 (N : Nat) (r1 : Int → Int → Option (Bool)) (v4 : Nat) (v20 : Nat) (v12 : Nat) (v15 : Nat) (v18 : Nat) (v1 : (Nat × (Nat × (Nat × Unit)))) (v2 : (Nat × (Nat × (Nat × Unit)))) (v3 : (Nat × (Nat × (Nat × Unit)))) (v24 : Int) (v26 : Int) : Option (Bool) :=
  gate N (laws_FnDegenerate3_g2 N v4 v20 v12 v15 v18 v1 v2 v3 v24 r1 v26)
def laws_FnDegenerate3_g1 (N : Nat) (v4 : Nat) (v20 : Nat) (v12 : Nat) (v15 : Nat) (v18 : Nat) (v1 : (Nat × (Nat × (Nat × Unit)))) (v2 : (Nat × (Nat × (Nat × Unit)))) (v3 : (Nat × (Nat × (Nat × Unit)))) (c2 : Int → Int → Option (Bool)) (r1 : Int → Int → Option (Bool)) (v23 : Int) (v24 : Int) : Option (Bool) :=
  (bif (decide ((v24 : Int) < 3)) then ((nth ([v12, v15, v18] : List Nat) v24).bind fun v25 => (bif (feq v25 v20) then (c2 v24 (IntKind.i64.wrap (v23 + 1))) else (c2 v24 v23))) else ((laws_squareArea3 N (v1.1, v1.2.1, v1.2.2.1, ()) (v2.1, v2.2.1, v2.2.2.1, ()) (v3.1, v3.2.1, v3.2.2.1, ())).bind fun v27 => (Ieee.double.div v27 v20).bind fun v28 => (math_Sqrt N v28).bind fun v29 => (Ieee.double.mul 4611686018427387904 v29).bind fun v30 => (bif (decide ((v23 : Int) > 1)) then (some true) else ((Ieee.double.sub v30 v4).bind fun v31 => (math_Abs N v31).bind fun v32 => (bif (flt v32 4539628424389459968) then (some true) else ((impl_Degenerate3 N (v1.1, v1.2.1, v1.2.2.1, ()) (v2.1, v2.2.1, v2.2.2.1, ()) (v3.1, v3.2.1, v3.2.2.1, ()) v4).bind fun v33 => (some (v33 == (flt v30 v4)))))))))
def laws_FnDegenerate3_l1 (N : Nat) : Nat → Nat → Nat → Nat → Nat → Nat → (Nat × (Nat × (Nat × Unit))) → (Nat × (Nat × (Nat × Unit))) → (Nat × (Nat × (Nat × Unit))) → Int → Int → Option (Bool)
  | 0, _, _, _, _, _, _, _, _, _, _ => none
  | n + 1, v4, v20, v12, v15, v18, v1, v2, v3, v23, v24 => laws_FnDegenerate3_g1 N v4 v20 v12 v15 v18 v1 v2 v3 (laws_FnDegenerate3_j2 N (laws_FnDegenerate3_l1 N n v4 v20 v12 v15 v18 v1 v2 v3) v4 v20 v12 v15 v18 v1 v2 v3) (laws_FnDegenerate3_l1 N n v4 v20 v12 v15 v18 v1 v2 v3) v23 v24
def laws_FnDegenerate3_g (N : Nat) (v1 : (Nat × (Nat × (Nat × Unit)))) (v2 : (Nat × (Nat × (Nat × Unit)))) (v3 : (Nat × (Nat × (Nat × Unit)))) (v4 : Nat) (c0 : Nat → (List Nat) → (List Nat) → (List Nat) → (Nat × (Nat × (Nat × Unit))) → (Nat × (Nat × (Nat × Unit))) → (Nat × (Nat × (Nat × Unit))) → Option (Bool)) (c1 : Nat → Nat → Nat → Nat → Nat → (Nat × (Nat × (Nat × Unit))) → (Nat × (Nat × (Nat × Unit))) → (Nat × (Nat × (Nat × Unit))) → Int → Int → Option (Bool)) : Option (Bool) :=
  ((laws_off3_b N (v1.1, v1.2.1, v1.2.2.1, ())).bind fun v5 => (laws_off3_b N (v2.1, v2.2.1, v2.2.2.1, ())).bind fun v6 => (laws_off3_b N (v3.1, v3.2.1, v3.2.2.1, ())).bind fun v7 => ((spec_Grid N ([v5, v6, v7] : List (List Nat)) 3 4652007308841189376).bind fun v8 => bif (!v8) then (c0 v4 v5 v6 v7 v1 v2 v3) else ((spec_Differ N ([v5, v6, v7] : List (List Nat))).bind fun v9 => bif (!v9) then (c0 v4 v5 v6 v7 v1 v2 v3) else (bif (fge v4 4562146422526312448) then (gate N (bif (!(fle v4 4656510908468559872)) then (some true) else ((nth ([v5, v6, v7] : List (List Nat)) 1).bind fun v10 => (nth ([v5, v6, v7] : List (List Nat)) 2).bind fun v11 => (spec_SquareN N v10 v11).bind fun v12 => (nth ([v5, v6, v7] : List (List Nat)) 2).bind fun v13 => (nth ([v5, v6, v7] : List (List Nat)) 0).bind fun v14 => (spec_SquareN N v13 v14).bind fun v15 => (nth ([v5, v6, v7] : List (List Nat)) 0).bind fun v16 => (nth ([v5, v6, v7] : List (List Nat)) 1).bind fun v17 => (spec_SquareN N v16 v17).bind fun v18 => ((fmm true v12 v15).bind fun v19 => (fmm true v19 v18).bind fun v20 => ((c1 v4 v20 v12 v15 v18 v1 v2 v3 0 0)))))) else (c0 v4 v5 v6 v7 v1 v2 v3)))))
def laws_FnDegenerate3 (N : Nat) (v1 : (Nat × (Nat × (Nat × Unit)))) (v2 : (Nat × (Nat × (Nat × Unit)))) (v3 : (Nat × (Nat × (Nat × Unit)))) (v4 : Nat) : Option (Bool) :=
  laws_FnDegenerate3_g N v1 v2 v3 v4 (laws_FnDegenerate3_j0 N) (laws_FnDegenerate3_l1 N N)
set_option maxRecDepth 100000
noncomputable def laws_FnDegenerate3_e0 (N : Nat) (v4 : Nat) (v5 : (List Nat)) (v6 : (List Nat)) (v7 : (List Nat)) (v1 : (Nat × (Nat × (Nat × Unit)))) (v2 : (Nat × (Nat × (Nat × Unit)))) (v3 : (Nat × (Nat × (Nat × Unit)))) : Option (HR [.bool]) :=
  gate N (evC (laws_FnDegenerate3_E N) (codeAt (bodyOf Try.f7) [1, 1, 0, 1]) ⟨[(3, .pv .float v4), (4, .ref 4 0), (5, .ref 5 0), (6, .ref 6 0), (9, .pv (.list (.list .float)) ([v5, v6, v7] : List (List Nat))), (39, .pv .bool true)], [(4, .box [.pv .float v1.1, .pv .float v1.2.1, .pv .float v1.2.2.1]), (5, .box [.pv .float v2.1, .pv .float v2.2.1, .pv .float v2.2.2.1]), (6, .box [.pv .float v3.1, .pv .float v3.2.1, .pv .float v3.2.2.1])], []⟩ (kSeq (advOf (laws_FnDegenerate3_E N) (codeAt (bodyOf Try.f7) [1, 1, 1])) (evC (laws_FnDegenerate3_E N) (codeAt (bodyOf Try.f7) [1, 1, 1])) (kEnd (laws_FnDegenerate3_E N) [] Try.f7.results.toList [.bool])))
noncomputable def laws_FnDegenerate3_e2 (N : Nat) (m1 : Nat) (v4 : Nat) (v20 : Nat) (v12 : Nat) (v15 : Nat) (v18 : Nat) (v1 : (Nat × (Nat × (Nat × Unit)))) (v2 : (Nat × (Nat × (Nat × Unit)))) (v3 : (Nat × (Nat × (Nat × Unit)))) (v24 : Int) (v26 : Int) : Option (HR [.bool]) :=
  gate N (evC (laws_FnDegenerate3_E N) (codeAt (bodyOf Try.f7) [1, 1, 1, 1, 1, 0, 1, 0, 0, 1, 1, 1]) ⟨[(3, .pv .float v4), (4, .ref 4 0), (5, .ref 5 0), (6, .ref 6 0), (11, .pv .float v20), (12, .pv (.int .i64) v26), (69, .agg [.pv .float v12, .pv .float v15, .pv .float v18]), (70, .pv (.int .i64) v24)], [(4, .box [.pv .float v1.1, .pv .float v1.2.1, .pv .float v1.2.2.1]), (5, .box [.pv .float v2.1, .pv .float v2.2.1, .pv .float v2.2.2.1]), (6, .box [.pv .float v3.1, .pv .float v3.2.1, .pv .float v3.2.2.1])], []⟩ (kSeq (advOf (laws_FnDegenerate3_E N) (codeAt (bodyOf Try.f7) [1, 1, 1, 1, 1, 0, 1, 0, 0])) (fun st K => loopN (advOf (laws_FnDegenerate3_E N) (codeAt (bodyOf Try.f7) [1, 1, 1, 1, 1, 0, 1, 0, 0])) (evC (laws_FnDegenerate3_E N) (codeAt (bodyOf Try.f7) [1, 1, 1, 1, 1, 0, 1, 0, 0])) m1 st K) (kBlock 0 (kSeq (advOf (laws_FnDegenerate3_E N) (codeAt (bodyOf Try.f7) [1, 1, 1, 1, 1, 1])) (evC (laws_FnDegenerate3_E N) (codeAt (bodyOf Try.f7) [1, 1, 1, 1, 1, 1])) (kEnd (laws_FnDegenerate3_E N) [] Try.f7.results.toList [.bool])))))
noncomputable def laws_FnDegenerate3_e1 (N : Nat) (n : Nat) (v4 : Nat) (v20 : Nat) (v12 : Nat) (v15 : Nat) (v18 : Nat) (v1 : (Nat × (Nat × (Nat × Unit)))) (v2 : (Nat × (Nat × (Nat × Unit)))) (v3 : (Nat × (Nat × (Nat × Unit)))) (v23 : Int) (v24 : Int) : Option (HR [.bool]) :=
  loopN (advOf (laws_FnDegenerate3_E N) (codeAt (bodyOf Try.f7) [1, 1, 1, 1, 1, 0, 1, 0, 0])) (evC (laws_FnDegenerate3_E N) (codeAt (bodyOf Try.f7) [1, 1, 1, 1, 1, 0, 1, 0, 0])) n ⟨[(3, .pv .float v4), (4, .ref 4 0), (5, .ref 5 0), (6, .ref 6 0), (11, .pv .float v20), (12, .pv (.int .i64) v23), (69, .agg [.pv .float v12, .pv .float v15, .pv .float v18]), (70, .pv (.int .i64) v24)], [(4, .box [.pv .float v1.1, .pv .float v1.2.1, .pv .float v1.2.2.1]), (5, .box [.pv .float v2.1, .pv .float v2.2.1, .pv .float v2.2.2.1]), (6, .box [.pv .float v3.1, .pv .float v3.2.1, .pv .float v3.2.2.1])], []⟩ (kBlock 0 (kSeq (advOf (laws_FnDegenerate3_E N) (codeAt (bodyOf Try.f7) [1, 1, 1, 1, 1, 1])) (evC (laws_FnDegenerate3_E N) (codeAt (bodyOf Try.f7) [1, 1, 1, 1, 1, 1])) (kEnd (laws_FnDegenerate3_E N) [] Try.f7.results.toList [.bool])))
theorem laws_FnDegenerate3_t0 (N : Nat) (v4 : Nat) (v5 : (List Nat)) (v6 : (List Nat)) (v7 : (List Nat)) (v1 : (Nat × (Nat × (Nat × Unit)))) (v2 : (Nat × (Nat × (Nat × Unit)))) (v3 : (Nat × (Nat × (Nat × Unit)))) : laws_FnDegenerate3_e0 N v4 v5 v6 v7 v1 v2 v3 = laws_FnDegenerate3_j0 N v4 v5 v6 v7 v1 v2 v3 := by
  exact (congrArg (gate N) (show evC (laws_FnDegenerate3_E N) (codeAt (bodyOf Try.f7) [1, 1, 0, 1]) ⟨[(3, .pv .float v4), (4, .ref 4 0), (5, .ref 5 0), (6, .ref 6 0), (9, .pv (.list (.list .float)) ([v5, v6, v7] : List (List Nat))), (39, .pv .bool true)], [(4, .box [.pv .float v1.1, .pv .float v1.2.1, .pv .float v1.2.2.1]), (5, .box [.pv .float v2.1, .pv .float v2.2.1, .pv .float v2.2.2.1]), (6, .box [.pv .float v3.1, .pv .float v3.2.1, .pv .float v3.2.2.1])], []⟩ (kSeq (advOf (laws_FnDegenerate3_E N) (codeAt (bodyOf Try.f7) [1, 1, 1])) (evC (laws_FnDegenerate3_E N) (codeAt (bodyOf Try.f7) [1, 1, 1])) (kEnd (laws_FnDegenerate3_E N) [] Try.f7.results.toList [.bool])) = laws_FnDegenerate3_g0 N v4 v5 v6 v7 v1 v2 v3 from by kernel_rfl)).trans (by rfl)
theorem laws_FnDegenerate3_t2 (N : Nat) (m1 : Nat) (v4 : Nat) (v20 : Nat) (v12 : Nat) (v15 : Nat) (v18 : Nat) (v1 : (Nat × (Nat × (Nat × Unit)))) (v2 : (Nat × (Nat × (Nat × Unit)))) (v3 : (Nat × (Nat × (Nat × Unit)))) (v24 : Int) (v26 : Int) : laws_FnDegenerate3_e2 N m1 v4 v20 v12 v15 v18 v1 v2 v3 v24 v26 = laws_FnDegenerate3_j2 N (laws_FnDegenerate3_e1 N m1 v4 v20 v12 v15 v18 v1 v2 v3) v4 v20 v12 v15 v18 v1 v2 v3 v24 v26 := by
  exact (congrArg (gate N) (show evC (laws_FnDegenerate3_E N) (codeAt (bodyOf Try.f7) [1, 1, 1, 1, 1, 0, 1, 0, 0, 1, 1, 1]) ⟨[(3, .pv .float v4), (4, .ref 4 0), (5, .ref 5 0), (6, .ref 6 0), (11, .pv .float v20), (12, .pv (.int .i64) v26), (69, .agg [.pv .float v12, .pv .float v15, .pv .float v18]), (70, .pv (.int .i64) v24)], [(4, .box [.pv .float v1.1, .pv .float v1.2.1, .pv .float v1.2.2.1]), (5, .box [.pv .float v2.1, .pv .float v2.2.1, .pv .float v2.2.2.1]), (6, .box [.pv .float v3.1, .pv .float v3.2.1, .pv .float v3.2.2.1])], []⟩ (kSeq (advOf (laws_FnDegenerate3_E N) (codeAt (bodyOf Try.f7) [1, 1, 1, 1, 1, 0, 1, 0, 0])) (fun st K => loopN (advOf (laws_FnDegenerate3_E N) (codeAt (bodyOf Try.f7) [1, 1, 1, 1, 1, 0, 1, 0, 0])) (evC (laws_FnDegenerate3_E N) (codeAt (bodyOf Try.f7) [1, 1, 1, 1, 1, 0, 1, 0, 0])) m1 st K) (kBlock 0 (kSeq (advOf (laws_FnDegenerate3_E N) (codeAt (bodyOf Try.f7) [1, 1, 1, 1, 1, 1])) (evC (laws_FnDegenerate3_E N) (codeAt (bodyOf Try.f7) [1, 1, 1, 1, 1, 1])) (kEnd (laws_FnDegenerate3_E N) [] Try.f7.results.toList [.bool])))) = laws_FnDegenerate3_g2 N v4 v20 v12 v15 v18 v1 v2 v3 v24 (laws_FnDegenerate3_e1 N m1 v4 v20 v12 v15 v18 v1 v2 v3) v26 from by kernel_rfl)).trans (by rfl)
theorem laws_FnDegenerate3_t1 (N : Nat) : ∀ (n : Nat) (v4 : Nat) (v20 : Nat) (v12 : Nat) (v15 : Nat) (v18 : Nat) (v1 : (Nat × (Nat × (Nat × Unit)))) (v2 : (Nat × (Nat × (Nat × Unit)))) (v3 : (Nat × (Nat × (Nat × Unit)))) (v23 : Int) (v24 : Int), laws_FnDegenerate3_e1 N n v4 v20 v12 v15 v18 v1 v2 v3 v23 v24 = laws_FnDegenerate3_l1 N n v4 v20 v12 v15 v18 v1 v2 v3 v23 v24
  | 0, _, _, _, _, _, _, _, _, _, _ => rfl
  | n + 1, v4, v20, v12, v15, v18, v1, v2, v3, v23, v24 => by
    have h2 : (laws_FnDegenerate3_e2 N n v4 v20 v12 v15 v18 v1 v2 v3) = (laws_FnDegenerate3_j2 N (laws_FnDegenerate3_e1 N n v4 v20 v12 v15 v18 v1 v2 v3) v4 v20 v12 v15 v18 v1 v2 v3) := by funext v24 v26; exact laws_FnDegenerate3_t2 N n v4 v20 v12 v15 v18 v1 v2 v3 v24 v26
    have h : laws_FnDegenerate3_e1 N n v4 v20 v12 v15 v18 v1 v2 v3 = laws_FnDegenerate3_l1 N n v4 v20 v12 v15 v18 v1 v2 v3 := by funext v23 v24; exact laws_FnDegenerate3_t1 N n v4 v20 v12 v15 v18 v1 v2 v3 v23 v24
    exact (show laws_FnDegenerate3_e1 N (n + 1) v4 v20 v12 v15 v18 v1 v2 v3 v23 v24 = laws_FnDegenerate3_g1 N v4 v20 v12 v15 v18 v1 v2 v3 (laws_FnDegenerate3_e2 N n v4 v20 v12 v15 v18 v1 v2 v3) (laws_FnDegenerate3_e1 N n v4 v20 v12 v15 v18 v1 v2 v3) v23 v24 from by kernel_rfl).trans (by rw [h2, h]; rfl)
theorem laws_FnDegenerate3_t (N : Nat) (v1 : (Nat × (Nat × (Nat × Unit)))) (v2 : (Nat × (Nat × (Nat × Unit)))) (v3 : (Nat × (Nat × (Nat × Unit)))) (v4 : Nat) : evF (laws_FnDegenerate3_E N) [] Try.f7 [.k (.pair .float (.pair .float (.pair .float .unit))), .k (.pair .float (.pair .float (.pair .float .unit))), .k (.pair .float (.pair .float (.pair .float .unit))), .k .float] [.bool] (v1, v2, v3, v4, ()) = laws_FnDegenerate3 N v1 v2 v3 v4 := by
  have h0 : (laws_FnDegenerate3_e0 N) = (laws_FnDegenerate3_j0 N) := by funext v4 v5 v6 v7 v1 v2 v3; exact laws_FnDegenerate3_t0 N v4 v5 v6 v7 v1 v2 v3
  have h1 : (laws_FnDegenerate3_e1 N N) = (laws_FnDegenerate3_l1 N N) := by funext v4 v20 v12 v15 v18 v1 v2 v3 v23 v24; exact laws_FnDegenerate3_t1 N N v4 v20 v12 v15 v18 v1 v2 v3 v23 v24
  exact (show evF (laws_FnDegenerate3_E N) [] Try.f7 [.k (.pair .float (.pair .float (.pair .float .unit))), .k (.pair .float (.pair .float (.pair .float .unit))), .k (.pair .float (.pair .float (.pair .float .unit))), .k .float] [.bool] (v1, v2, v3, v4, ()) = laws_FnDegenerate3_g N v1 v2 v3 v4 (laws_FnDegenerate3_e0 N) (laws_FnDegenerate3_e1 N N) from by kernel_rfl).trans (by rw [h0, h1]; rfl)
noncomputable def laws_FnDegenerate3_con (N : Nat) : Con := ⟨7, [.k (.pair .float (.pair .float (.pair .float .unit))), .k (.pair .float (.pair .float (.pair .float .unit))), .k (.pair .float (.pair .float (.pair .float .unit))), .k .float], [.bool], fun x => laws_FnDegenerate3 N x.1 x.2.1 x.2.2.1 x.2.2.2.1⟩
theorem laws_FnDegenerate3_s (N : Nat) : (laws_FnDegenerate3_con N).Sound Try.prog [] :=
  Con.sound_of (c := laws_FnDegenerate3_con N) (E := (laws_FnDegenerate3_E N)) (idle := []) Try.func7 (by kernel_rfl) (by kernel_rfl) ⟨(allCons (laws_off3_b_s N) (allCons (spec_Grid_s N) (allCons (spec_Differ_s N) (allCons (spec_SquareN_s N) (allCons (laws_squareArea3_s N) (allCons (math_Sqrt_s N) (allCons (math_Abs_s N) (allCons (impl_Degenerate3_s N) allNil)))))))), allNil, rfl⟩ allNil (fun x y h => (laws_FnDegenerate3_t N x.1 x.2.1 x.2.2.1 x.2.2.2.1).trans h)
end
end Go.Proofs.Ytlbbldhbggfoaaa.D2
