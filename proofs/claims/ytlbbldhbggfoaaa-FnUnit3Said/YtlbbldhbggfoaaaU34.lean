import Derived.Test.YtlbbldhbggfoaaaProg
import Derived.Test.YtlbbldhbggfoaaaAv16
import Derived.Test.YtlbbldhbggfoaaaAv19
import Derived.Test.YtlbbldhbggfoaaaAv20
import Derived.Test.YtlbbldhbggfoaaaAv21
import Derived.Test.YtlbbldhbggfoaaaAv25
import Derived.Test.YtlbbldhbggfoaaaAv31
import Derived.Test.YtlbbldhbggfoaaaAv32
import Derived.KernelRfl
set_option linter.unusedVariables false
namespace Go.Proofs.Ytlbbldhbggfoaaa.U34
open Go Go.Av
/-- math.archTrunc -/
def math_archTrunc (N : Nat) (v1 : Nat) : Option Nat := fwhole .zero v1
noncomputable def math_archTrunc_con (N : Nat) : Con := ⟨93, [.k .float], [.float], fun x => math_archTrunc N x.1⟩
theorem math_archTrunc_s (N : Nat) : (math_archTrunc_con N).Sound Try.prog := whole_of (name := "math.archTrunc") Try.func93 (by kernel_rfl) (by kernel_rfl) (by kernel_rfl) (by kernel_rfl)
/-- math.Trunc -/
noncomputable def math_Trunc_E (N : Nat) : Env := ⟨Try.prog, N, [math_archTrunc_con N], [(0, ⟨[], [], [0], [], none⟩), (1, ⟨[], [], [0], [], none⟩), (2, ⟨[], [], [0], [], none⟩)], kdL [], []⟩
def math_Trunc_g (N : Nat) (v1 : Nat) : Option (Nat) :=
  ((math_archTrunc N v1).bind fun v2 => (some v2))
def math_Trunc (N : Nat) (v1 : Nat) : Option (Nat) :=
  math_Trunc_g N v1
set_option maxRecDepth 100000
theorem math_Trunc_t (N : Nat) (v1 : Nat) : evF (math_Trunc_E N) [] Try.f58 [.k .float] [.float] (v1, ()) = math_Trunc N v1 := by
  exact (show evF (math_Trunc_E N) [] Try.f58 [.k .float] [.float] (v1, ()) = math_Trunc_g N v1 from by kernel_rfl).trans (by rfl)
noncomputable def math_Trunc_con (N : Nat) : Con := ⟨58, [.k .float], [.float], fun x => math_Trunc N x.1⟩
theorem math_Trunc_s (N : Nat) : (math_Trunc_con N).Sound Try.prog :=
  Con.sound_of (c := math_Trunc_con N) (E := (math_Trunc_E N)) (idle := []) Try.func58 (by kernel_rfl) (by kernel_rfl) ⟨(allCons (math_archTrunc_s N) allNil), allNil⟩ allNil (fun x y h => (math_Trunc_t N x.1).trans h)
/-- pub-orthodrome/spec.Grid -/
noncomputable def spec_Grid_E (N : Nat) : Env := ⟨Try.prog, N, [math_Trunc_con N], [(0, ⟨[], [], [0, 1, 2], [], none⟩), (1, ⟨[], [], [0, 1, 2], [], none⟩), (2, ⟨[], [], [1, 2, 11, 12, 13], [], none⟩), (3, ⟨[], [], [1, 2, 11, 12, 13], [], none⟩), (4, ⟨[], [], [1, 2, 8, 11, 12, 13], [], none⟩), (5, ⟨[], [], [1, 2, 8, 11, 12, 13, 20], [], none⟩), (6, ⟨[], [], [1, 2, 8, 11, 12, 13], [], none⟩), (7, ⟨[], [], [1, 2, 11, 12, 13, 21, 22, 23], [], none⟩), (8, ⟨[], [], [1, 2, 11, 12, 13, 21, 22, 23], [], none⟩), (9, ⟨[], [], [1, 2, 10, 11, 12, 13, 21, 22, 23], [], none⟩), (10, ⟨[], [], [1, 2, 11, 12, 13, 21, 22, 23, 42], [], some N⟩), (11, ⟨[], [], [1, 2, 11, 12, 13, 21, 22, 23], [], none⟩), (12, ⟨[], [], [1, 2, 11, 12, 13], [], none⟩), (13, ⟨[], [], [1], [], none⟩)], kdL [], []⟩
def spec_Grid_g2 (N : Nat) (v2 : Int) (v3 : Nat) (v1 : (List (List Nat))) (v10 : Int) (v11 : (List Nat)) (v14 : Int) (r1 : Int → Option (Bool)) (r0 : Int → Option (Bool)) : Option (Bool) :=
  (some false)
def spec_Grid_j2 (N : Nat) (r1 : Int → Option (Bool)) (r0 : Int → Option (Bool)) (v2 : Int) (v3 : Nat) (v1 : (List (List Nat))) (v10 : Int) (v11 : (List Nat)) (v14 : Int) : Option (Bool) :=
  gate N (spec_Grid_g2 N v2 v3 v1 v10 v11 v14 r1 r0)
def spec_Grid_g1 (N : Nat) (v2 : Int) (v3 : Nat) (v1 : (List (List Nat))) (v10 : Int) (v11 : (List Nat)) (c2 : Int → Option (Bool)) (r1 : Int → Option (Bool)) (r0 : Int → Option (Bool)) (v14 : Int) : Option (Bool) :=
  (bif (decide ((v14 : Int) < (v11.length : Int))) then ((nth v11 v14).bind fun v15 => (bif (fge v15 (fneg v3)) then (bif (!(fle v15 v3)) then (c2 v14) else ((math_Trunc N v15).bind fun v16 => (gate N (bif (fne v15 v16) then (some false) else ((r1 (IntKind.i64.wrap (v14 + 1)))))))) else (c2 v14))) else ((r0 (IntKind.i64.wrap (v10 + 1)))))
def spec_Grid_l1 (N : Nat) (r0 : Int → Option (Bool)) (v2 : Int) (v3 : Nat) (v1 : (List (List Nat))) : Nat → Int → (List Nat) → Int → Option (Bool)
  | 0, _, _, _ => none
  | n + 1, v10, v11, v14 => spec_Grid_g1 N v2 v3 v1 v10 v11 (spec_Grid_j2 N (spec_Grid_l1 N r0 v2 v3 v1 n v10 v11) r0 v2 v3 v1 v10 v11) (spec_Grid_l1 N r0 v2 v3 v1 n v10 v11) r0 v14
def spec_Grid_g0 (N : Nat) (v2 : Int) (v3 : Nat) (v1 : (List (List Nat))) (c1 : Int → (List Nat) → Int → Option (Bool)) (r0 : Int → Option (Bool)) (v10 : Int) : Option (Bool) :=
  (bif (decide ((v10 : Int) < (v1.length : Int))) then ((nth v1 v10).bind fun v11 => (bif ((v11.length : Int) != v2) then (some false) else ((c1 v10 v11 0)))) else (some (decide ((v2 : Int) > 0))))
def spec_Grid_l0 (N : Nat) : Nat → Int → Nat → (List (List Nat)) → Int → Option (Bool)
  | 0, _, _, _, _ => none
  | n + 1, v2, v3, v1, v10 => spec_Grid_g0 N v2 v3 v1 (spec_Grid_l1 N (spec_Grid_l0 N n v2 v3 v1) v2 v3 v1 N) (spec_Grid_l0 N n v2 v3 v1) v10
def spec_Grid_g (N : Nat) (v1 : (List (List Nat))) (v2 : Int) (v3 : Nat) (c0 : Int → Nat → (List (List Nat)) → Int → Option (Bool)) : Option (Bool) :=
  ((c0 v2 v3 v1 0))
def spec_Grid (N : Nat) (v1 : (List (List Nat))) (v2 : Int) (v3 : Nat) : Option (Bool) :=
  spec_Grid_g N v1 v2 v3 (spec_Grid_l0 N N)
set_option maxRecDepth 100000
noncomputable def spec_Grid_e2 (N : Nat) (m1 : Nat) (m0 : Nat) (v2 : Int) (v3 : Nat) (v1 : (List (List Nat))) (v10 : Int) (v11 : (List Nat)) (v14 : Int) : Option (HR [.bool]) :=
  gate N (evC (spec_Grid_E N) (codeAt (bodyOf Try.f21) [1, 0, 1, 0, 0, 1, 1, 0, 0, 1, 1, 1, 0, 0, 1, 1, 0, 0, 1, 1]) ⟨[(1, .pv (.int .i64) v2), (2, .pv .float v3), (11, .pv (.list (.list .float)) v1), (12, .pv (.int .i64) (v1.length : Int)), (13, .pv (.int .i64) v10), (21, .pv (.list .float) v11), (22, .pv (.int .i64) (v11.length : Int)), (23, .pv (.int .i64) v14), (42, .pv .bool true)], [], []⟩ (kBlock 3 (kSeq (advOf (spec_Grid_E N) (codeAt (bodyOf Try.f21) [1, 0, 1, 0, 0, 1, 1, 0, 0, 1, 1, 1, 0, 0, 1, 1, 1])) (evC (spec_Grid_E N) (codeAt (bodyOf Try.f21) [1, 0, 1, 0, 0, 1, 1, 0, 0, 1, 1, 1, 0, 0, 1, 1, 1])) (kSeq (advOf (spec_Grid_E N) (codeAt (bodyOf Try.f21) [1, 0, 1, 0, 0, 1, 1, 0, 0, 1, 1, 1, 0, 0])) (fun st K => loopN (advOf (spec_Grid_E N) (codeAt (bodyOf Try.f21) [1, 0, 1, 0, 0, 1, 1, 0, 0, 1, 1, 1, 0, 0])) (evC (spec_Grid_E N) (codeAt (bodyOf Try.f21) [1, 0, 1, 0, 0, 1, 1, 0, 0, 1, 1, 1, 0, 0])) m1 st K) (kBlock 2 (kBlock 1 (kSeq (advOf (spec_Grid_E N) (codeAt (bodyOf Try.f21) [1, 0, 1, 0, 0, 1, 1, 1])) (evC (spec_Grid_E N) (codeAt (bodyOf Try.f21) [1, 0, 1, 0, 0, 1, 1, 1])) (kSeq (advOf (spec_Grid_E N) (codeAt (bodyOf Try.f21) [1, 0, 1, 0, 0])) (fun st K => loopN (advOf (spec_Grid_E N) (codeAt (bodyOf Try.f21) [1, 0, 1, 0, 0])) (evC (spec_Grid_E N) (codeAt (bodyOf Try.f21) [1, 0, 1, 0, 0])) m0 st K) (kBlock 0 (kSeq (advOf (spec_Grid_E N) (codeAt (bodyOf Try.f21) [1, 1])) (evC (spec_Grid_E N) (codeAt (bodyOf Try.f21) [1, 1])) (kEnd (spec_Grid_E N) [] Try.f21.results.toList [.bool])))))))))))
noncomputable def spec_Grid_e1 (N : Nat) (m0 : Nat) (v2 : Int) (v3 : Nat) (v1 : (List (List Nat))) (n : Nat) (v10 : Int) (v11 : (List Nat)) (v14 : Int) : Option (HR [.bool]) :=
  loopN (advOf (spec_Grid_E N) (codeAt (bodyOf Try.f21) [1, 0, 1, 0, 0, 1, 1, 0, 0, 1, 1, 1, 0, 0])) (evC (spec_Grid_E N) (codeAt (bodyOf Try.f21) [1, 0, 1, 0, 0, 1, 1, 0, 0, 1, 1, 1, 0, 0])) n ⟨[(1, .pv (.int .i64) v2), (2, .pv .float v3), (11, .pv (.list (.list .float)) v1), (12, .pv (.int .i64) (v1.length : Int)), (13, .pv (.int .i64) v10), (21, .pv (.list .float) v11), (22, .pv (.int .i64) (v11.length : Int)), (23, .pv (.int .i64) v14)], [], []⟩ (kBlock 2 (kBlock 1 (kSeq (advOf (spec_Grid_E N) (codeAt (bodyOf Try.f21) [1, 0, 1, 0, 0, 1, 1, 1])) (evC (spec_Grid_E N) (codeAt (bodyOf Try.f21) [1, 0, 1, 0, 0, 1, 1, 1])) (kSeq (advOf (spec_Grid_E N) (codeAt (bodyOf Try.f21) [1, 0, 1, 0, 0])) (fun st K => loopN (advOf (spec_Grid_E N) (codeAt (bodyOf Try.f21) [1, 0, 1, 0, 0])) (evC (spec_Grid_E N) (codeAt (bodyOf Try.f21) [1, 0, 1, 0, 0])) m0 st K) (kBlock 0 (kSeq (advOf (spec_Grid_E N) (codeAt (bodyOf Try.f21) [1, 1])) (evC (spec_Grid_E N) (codeAt (bodyOf Try.f21) [1, 1])) (kEnd (spec_Grid_E N) [] Try.f21.results.toList [.bool])))))))
noncomputable def spec_Grid_e0 (N : Nat) (n : Nat) (v2 : Int) (v3 : Nat) (v1 : (List (List Nat))) (v10 : Int) : Option (HR [.bool]) :=
  loopN (advOf (spec_Grid_E N) (codeAt (bodyOf Try.f21) [1, 0, 1, 0, 0])) (evC (spec_Grid_E N) (codeAt (bodyOf Try.f21) [1, 0, 1, 0, 0])) n ⟨[(1, .pv (.int .i64) v2), (2, .pv .float v3), (11, .pv (.list (.list .float)) v1), (12, .pv (.int .i64) (v1.length : Int)), (13, .pv (.int .i64) v10)], [], []⟩ (kBlock 0 (kSeq (advOf (spec_Grid_E N) (codeAt (bodyOf Try.f21) [1, 1])) (evC (spec_Grid_E N) (codeAt (bodyOf Try.f21) [1, 1])) (kEnd (spec_Grid_E N) [] Try.f21.results.toList [.bool])))
theorem spec_Grid_t2 (N : Nat) (m1 : Nat) (m0 : Nat) (v2 : Int) (v3 : Nat) (v1 : (List (List Nat))) (v10 : Int) (v11 : (List Nat)) (v14 : Int) : spec_Grid_e2 N m1 m0 v2 v3 v1 v10 v11 v14 = spec_Grid_j2 N (spec_Grid_e1 N m0 v2 v3 v1 m1 v10 v11) (spec_Grid_e0 N m0 v2 v3 v1) v2 v3 v1 v10 v11 v14 := by
  exact (congrArg (gate N) (show evC (spec_Grid_E N) (codeAt (bodyOf Try.f21) [1, 0, 1, 0, 0, 1, 1, 0, 0, 1, 1, 1, 0, 0, 1, 1, 0, 0, 1, 1]) ⟨[(1, .pv (.int .i64) v2), (2, .pv .float v3), (11, .pv (.list (.list .float)) v1), (12, .pv (.int .i64) (v1.length : Int)), (13, .pv (.int .i64) v10), (21, .pv (.list .float) v11), (22, .pv (.int .i64) (v11.length : Int)), (23, .pv (.int .i64) v14), (42, .pv .bool true)], [], []⟩ (kBlock 3 (kSeq (advOf (spec_Grid_E N) (codeAt (bodyOf Try.f21) [1, 0, 1, 0, 0, 1, 1, 0, 0, 1, 1, 1, 0, 0, 1, 1, 1])) (evC (spec_Grid_E N) (codeAt (bodyOf Try.f21) [1, 0, 1, 0, 0, 1, 1, 0, 0, 1, 1, 1, 0, 0, 1, 1, 1])) (kSeq (advOf (spec_Grid_E N) (codeAt (bodyOf Try.f21) [1, 0, 1, 0, 0, 1, 1, 0, 0, 1, 1, 1, 0, 0])) (fun st K => loopN (advOf (spec_Grid_E N) (codeAt (bodyOf Try.f21) [1, 0, 1, 0, 0, 1, 1, 0, 0, 1, 1, 1, 0, 0])) (evC (spec_Grid_E N) (codeAt (bodyOf Try.f21) [1, 0, 1, 0, 0, 1, 1, 0, 0, 1, 1, 1, 0, 0])) m1 st K) (kBlock 2 (kBlock 1 (kSeq (advOf (spec_Grid_E N) (codeAt (bodyOf Try.f21) [1, 0, 1, 0, 0, 1, 1, 1])) (evC (spec_Grid_E N) (codeAt (bodyOf Try.f21) [1, 0, 1, 0, 0, 1, 1, 1])) (kSeq (advOf (spec_Grid_E N) (codeAt (bodyOf Try.f21) [1, 0, 1, 0, 0])) (fun st K => loopN (advOf (spec_Grid_E N) (codeAt (bodyOf Try.f21) [1, 0, 1, 0, 0])) (evC (spec_Grid_E N) (codeAt (bodyOf Try.f21) [1, 0, 1, 0, 0])) m0 st K) (kBlock 0 (kSeq (advOf (spec_Grid_E N) (codeAt (bodyOf Try.f21) [1, 1])) (evC (spec_Grid_E N) (codeAt (bodyOf Try.f21) [1, 1])) (kEnd (spec_Grid_E N) [] Try.f21.results.toList [.bool])))))))))) = spec_Grid_g2 N v2 v3 v1 v10 v11 v14 (spec_Grid_e1 N m0 v2 v3 v1 m1 v10 v11) (spec_Grid_e0 N m0 v2 v3 v1) from by kernel_rfl)).trans (by rfl)
theorem spec_Grid_t1 (N : Nat) (m0 : Nat) (v2 : Int) (v3 : Nat) (v1 : (List (List Nat))) : ∀ (n : Nat) (v10 : Int) (v11 : (List Nat)) (v14 : Int), spec_Grid_e1 N m0 v2 v3 v1 n v10 v11 v14 = spec_Grid_l1 N (spec_Grid_e0 N m0 v2 v3 v1) v2 v3 v1 n v10 v11 v14
  | 0, _, _, _ => rfl
  | n + 1, v10, v11, v14 => by
    have h2 : (spec_Grid_e2 N n m0 v2 v3 v1 v10 v11) = (spec_Grid_j2 N (spec_Grid_e1 N m0 v2 v3 v1 n v10 v11) (spec_Grid_e0 N m0 v2 v3 v1) v2 v3 v1 v10 v11) := by funext v14; exact spec_Grid_t2 N n m0 v2 v3 v1 v10 v11 v14
    have h : spec_Grid_e1 N m0 v2 v3 v1 n v10 v11 = spec_Grid_l1 N (spec_Grid_e0 N m0 v2 v3 v1) v2 v3 v1 n v10 v11 := by funext v14; exact spec_Grid_t1 N m0 v2 v3 v1 n v10 v11 v14
    exact (show spec_Grid_e1 N m0 v2 v3 v1 (n + 1) v10 v11 v14 = spec_Grid_g1 N v2 v3 v1 v10 v11 (spec_Grid_e2 N n m0 v2 v3 v1 v10 v11) (spec_Grid_e1 N m0 v2 v3 v1 n v10 v11) (spec_Grid_e0 N m0 v2 v3 v1) v14 from by kernel_rfl).trans (by rw [h2, h]; rfl)
theorem spec_Grid_t0 (N : Nat) : ∀ (n : Nat) (v2 : Int) (v3 : Nat) (v1 : (List (List Nat))) (v10 : Int), spec_Grid_e0 N n v2 v3 v1 v10 = spec_Grid_l0 N n v2 v3 v1 v10
  | 0, _, _, _, _ => rfl
  | n + 1, v2, v3, v1, v10 => by
    have h1 : (spec_Grid_e1 N n v2 v3 v1 N) = (spec_Grid_l1 N (spec_Grid_e0 N n v2 v3 v1) v2 v3 v1 N) := by funext v10 v11 v14; exact spec_Grid_t1 N n v2 v3 v1 N v10 v11 v14
    have h : spec_Grid_e0 N n v2 v3 v1 = spec_Grid_l0 N n v2 v3 v1 := by funext v10; exact spec_Grid_t0 N n v2 v3 v1 v10
    exact (show spec_Grid_e0 N (n + 1) v2 v3 v1 v10 = spec_Grid_g0 N v2 v3 v1 (spec_Grid_e1 N n v2 v3 v1 N) (spec_Grid_e0 N n v2 v3 v1) v10 from by kernel_rfl).trans (by rw [h1, h]; rfl)
theorem spec_Grid_t (N : Nat) (v1 : (List (List Nat))) (v2 : Int) (v3 : Nat) : evF (spec_Grid_E N) [] Try.f21 [.k (.list (.list .float)), .k (.int .i64), .k .float] [.bool] (v1, v2, v3, ()) = spec_Grid N v1 v2 v3 := by
  have h0 : (spec_Grid_e0 N N) = (spec_Grid_l0 N N) := by funext v2 v3 v1 v10; exact spec_Grid_t0 N N v2 v3 v1 v10
  exact (show evF (spec_Grid_E N) [] Try.f21 [.k (.list (.list .float)), .k (.int .i64), .k .float] [.bool] (v1, v2, v3, ()) = spec_Grid_g N v1 v2 v3 (spec_Grid_e0 N N) from by kernel_rfl).trans (by rw [h0]; rfl)
noncomputable def spec_Grid_con (N : Nat) : Con := ⟨21, [.k (.list (.list .float)), .k (.int .i64), .k .float], [.bool], fun x => spec_Grid N x.1 x.2.1 x.2.2.1⟩
theorem spec_Grid_s (N : Nat) : (spec_Grid_con N).Sound Try.prog :=
  Con.sound_of (c := spec_Grid_con N) (E := (spec_Grid_E N)) (idle := []) Try.func21 (by kernel_rfl) (by kernel_rfl) ⟨(allCons (math_Trunc_s N) allNil), allNil⟩ allNil (fun x y h => (spec_Grid_t N x.1 x.2.1 x.2.2.1).trans h)
/-- pub-orthodrome/laws.off2 -/
noncomputable def laws_off2_E (N : Nat) : Env := ⟨Try.prog, N, [], [(0, ⟨[], [], [0], [], none⟩), (1, ⟨[], [], [1], [1], none⟩)], kdL [(22, .float)], []⟩
def laws_off2_g (N : Nat) (v1 : (Nat × (Nat × Unit))) : Option (((List Nat) × Unit)) :=
  (some (([v1.1, v1.2.1] : List Nat), ()))
def laws_off2 (N : Nat) (v1 : (Nat × (Nat × Unit))) : Option (((List Nat) × Unit)) :=
  laws_off2_g N v1
set_option maxRecDepth 100000
theorem laws_off2_t (N : Nat) (v1 : (Nat × (Nat × Unit))) : evF2 (laws_off2_E N) [] Try.f20 [.k (.pair .float (.pair .float .unit))] [⟨[.row 22 .float], [none]⟩] (v1, ()) = laws_off2 N v1 := by
  exact (show evF2 (laws_off2_E N) [] Try.f20 [.k (.pair .float (.pair .float .unit))] [⟨[.row 22 .float], [none]⟩] (v1, ()) = laws_off2_g N v1 from by kernel_rfl).trans (by rfl)
noncomputable def laws_off2_con (N : Nat) : Con2 := ⟨20, [.k (.pair .float (.pair .float .unit))], [⟨[.row 22 .float], [none]⟩], fun x => laws_off2 N x.1⟩
theorem laws_off2_s (N : Nat) : (laws_off2_con N).Sound Try.prog :=
  Con2.sound_of (c := laws_off2_con N) (E := (laws_off2_E N)) (idle := []) Try.func20 (by kernel_rfl) (by kernel_rfl) ⟨allNil, allNil⟩ allNil (fun x y h => (laws_off2_t N x.1).trans h)
/-- pub-orthodrome/laws.whole2 -/
noncomputable def laws_whole2_E (N : Nat) : Env := ⟨Try.prog, N, [spec_Grid_con N], [(0, ⟨[], [], [0], [], none⟩), (1, ⟨[], [], [0], [], none⟩), (2, ⟨[], [], [5, 6, 7], [], none⟩), (3, ⟨[], [], [5, 6, 7], [], none⟩), (4, ⟨[], [], [4, 5, 6, 7], [4], none⟩), (5, ⟨[], [], [5, 6, 7, 15], [], none⟩), (6, ⟨[], [], [5, 6, 7], [], none⟩), (7, ⟨[], [], [], [], none⟩)], kdL [(36, (.list .float))], [laws_off2_con N]⟩
def laws_whole2_g0 (N : Nat) (v1 : (List (Nat × (Nat × Unit)))) (r0 : Int → Option (Bool)) (v5 : Int) : Option (Bool) :=
  (bif (decide ((v5 : Int) < (v1.length : Int))) then ((nth v1 v5).bind fun v6 => ((laws_off2 N (v6.1, v6.2.1, ())).bind fun v7 => (spec_Grid N ([v7.1] : List (List Nat)) 2 4697254411347427328).bind fun v8 => (bif (!v8) then (some false) else ((r0 (IntKind.i64.wrap (v5 + 1))))))) else (some true))
def laws_whole2_l0 (N : Nat) : Nat → (List (Nat × (Nat × Unit))) → Int → Option (Bool)
  | 0, _, _ => none
  | n + 1, v1, v5 => laws_whole2_g0 N v1 (laws_whole2_l0 N n v1) v5
def laws_whole2_g (N : Nat) (v1 : (List (Nat × (Nat × Unit)))) (c0 : (List (Nat × (Nat × Unit))) → Int → Option (Bool)) : Option (Bool) :=
  ((c0 v1 0))
def laws_whole2 (N : Nat) (v1 : (List (Nat × (Nat × Unit)))) : Option (Bool) :=
  laws_whole2_g N v1 (laws_whole2_l0 N N)
set_option maxRecDepth 100000
noncomputable def laws_whole2_e0 (N : Nat) (n : Nat) (v1 : (List (Nat × (Nat × Unit)))) (v5 : Int) : Option (HR [.bool]) :=
  loopN (advOf (laws_whole2_E N) (codeAt (bodyOf Try.f11) [1, 0, 1, 0, 0])) (evC (laws_whole2_E N) (codeAt (bodyOf Try.f11) [1, 0, 1, 0, 0])) n ⟨[(5, .pv (.list (.pair .float (.pair .float .unit))) v1), (6, .pv (.int .i64) (v1.length : Int)), (7, .pv (.int .i64) v5)], [], []⟩ (kBlock 0 (kSeq (advOf (laws_whole2_E N) (codeAt (bodyOf Try.f11) [1, 1])) (evC (laws_whole2_E N) (codeAt (bodyOf Try.f11) [1, 1])) (kEnd (laws_whole2_E N) [] Try.f11.results.toList [.bool])))
theorem laws_whole2_t0 (N : Nat) : ∀ (n : Nat) (v1 : (List (Nat × (Nat × Unit)))) (v5 : Int), laws_whole2_e0 N n v1 v5 = laws_whole2_l0 N n v1 v5
  | 0, _, _ => rfl
  | n + 1, v1, v5 => by
    have h : laws_whole2_e0 N n v1 = laws_whole2_l0 N n v1 := by funext v5; exact laws_whole2_t0 N n v1 v5
    exact (show laws_whole2_e0 N (n + 1) v1 v5 = laws_whole2_g0 N v1 (laws_whole2_e0 N n v1) v5 from by kernel_rfl).trans (by rw [h]; rfl)
theorem laws_whole2_t (N : Nat) (v1 : (List (Nat × (Nat × Unit)))) : evF (laws_whole2_E N) [] Try.f11 [.k (.list (.pair .float (.pair .float .unit)))] [.bool] (v1, ()) = laws_whole2 N v1 := by
  have h0 : (laws_whole2_e0 N N) = (laws_whole2_l0 N N) := by funext v1 v5; exact laws_whole2_t0 N N v1 v5
  exact (show evF (laws_whole2_E N) [] Try.f11 [.k (.list (.pair .float (.pair .float .unit)))] [.bool] (v1, ()) = laws_whole2_g N v1 (laws_whole2_e0 N N) from by kernel_rfl).trans (by rw [h0]; rfl)
noncomputable def laws_whole2_con (N : Nat) : Con := ⟨11, [.k (.list (.pair .float (.pair .float .unit)))], [.bool], fun x => laws_whole2 N x.1⟩
theorem laws_whole2_s (N : Nat) : (laws_whole2_con N).Sound Try.prog :=
  Con.sound_of (c := laws_whole2_con N) (E := (laws_whole2_E N)) (idle := []) Try.func11 (by kernel_rfl) (by kernel_rfl) ⟨(allCons (spec_Grid_s N) allNil), (allCons (laws_off2_s N) allNil)⟩ allNil (fun x y h => (laws_whole2_t N x.1).trans h)
/-- pub-orthodrome/impl.vec2 -/
noncomputable def impl_vec2_E (N : Nat) : Env := ⟨Try.prog, N, [], [(0, ⟨[], [], [0], [], none⟩), (1, ⟨[], [], [1, 2], [1, 2], none⟩)], kdL [], []⟩
def impl_vec2_g (N : Nat) (v1 : (Nat × (Nat × Unit))) : Option ((Nat × (Nat × Unit))) :=
  (some (v1.1, v1.2.1, ()))
def impl_vec2 (N : Nat) (v1 : (Nat × (Nat × Unit))) : Option ((Nat × (Nat × Unit))) :=
  impl_vec2_g N v1
set_option maxRecDepth 100000
theorem impl_vec2_t (N : Nat) (v1 : (Nat × (Nat × Unit))) : evF (impl_vec2_E N) [] Try.f48 [.k (.pair .float (.pair .float .unit))] [(.pair .float (.pair .float .unit))] (v1, ()) = impl_vec2 N v1 := by
  exact (show evF (impl_vec2_E N) [] Try.f48 [.k (.pair .float (.pair .float .unit))] [(.pair .float (.pair .float .unit))] (v1, ()) = impl_vec2_g N v1 from by kernel_rfl).trans (by rfl)
noncomputable def impl_vec2_con (N : Nat) : Con := ⟨48, [.k (.pair .float (.pair .float .unit))], [(.pair .float (.pair .float .unit))], fun x => impl_vec2 N x.1⟩
theorem impl_vec2_s (N : Nat) : (impl_vec2_con N).Sound Try.prog :=
  Con.sound_of (c := impl_vec2_con N) (E := (impl_vec2_E N)) (idle := []) Try.func48 (by kernel_rfl) (by kernel_rfl) ⟨allNil, allNil⟩ allNil (fun x y h => (impl_vec2_t N x.1).trans h)
/-- math.Float64frombits -/
def math_Float64frombits (N : Nat) (v1 : Int) : Option Nat := some (v1 : Int).toNat
noncomputable def math_Float64frombits_con (N : Nat) : Con := ⟨50, [.k (.int .u64)], [.float], fun x => math_Float64frombits N x.1⟩
theorem math_Float64frombits_s (N : Nat) : (math_Float64frombits_con N).Sound Try.prog := frombits_of Try.func50 (by kernel_rfl) (by kernel_rfl) (by kernel_rfl) (by kernel_rfl)
/-- math.NaN -/
noncomputable def math_NaN_E (N : Nat) : Env := ⟨Try.prog, N, [math_Float64frombits_con N], [(0, ⟨[], [], [], [], none⟩), (1, ⟨[], [], [], [], none⟩)], kdL [], []⟩
def math_NaN_g (N : Nat) : Option (Nat) :=
  ((math_Float64frombits N 9221120237041090561).bind fun v1 => (some v1))
def math_NaN (N : Nat) : Option (Nat) :=
  math_NaN_g N
set_option maxRecDepth 100000
theorem math_NaN_t (N : Nat) : evF (math_NaN_E N) [] Try.f89 [] [.float] (()) = math_NaN N := by
  exact (show evF (math_NaN_E N) [] Try.f89 [] [.float] (()) = math_NaN_g N from by kernel_rfl).trans (by rfl)
noncomputable def math_NaN_con (N : Nat) : Con := ⟨89, [], [.float], fun x => math_NaN N⟩
theorem math_NaN_s (N : Nat) : (math_NaN_con N).Sound Try.prog :=
  Con.sound_of (c := math_NaN_con N) (E := (math_NaN_E N)) (idle := []) Try.func89 (by kernel_rfl) (by kernel_rfl) ⟨(allCons (math_Float64frombits_s N) allNil), allNil⟩ allNil (fun x y h => (math_NaN_t N).trans h)
/-- math.archHypot -/
def math_archHypot (N : Nat) (v1 : Nat) (v2 : Nat) : Option Nat := fhypot v1 v2
noncomputable def math_archHypot_con (N : Nat) : Con := ⟨113, [.k .float, .k .float], [.float], fun x => math_archHypot N x.1 x.2.1⟩
theorem math_archHypot_s (N : Nat) : (math_archHypot_con N).Sound Try.prog := hypot_of Try.func113 (by kernel_rfl) (by kernel_rfl) (by kernel_rfl) (by kernel_rfl)
/-- math.Hypot -/
noncomputable def math_Hypot_E (N : Nat) : Env := ⟨Try.prog, N, [math_archHypot_con N], [(0, ⟨[], [], [0, 1], [], none⟩), (1, ⟨[], [], [0, 1], [], none⟩), (2, ⟨[], [], [0, 1], [], none⟩)], kdL [], []⟩
def math_Hypot_g (N : Nat) (v1 : Nat) (v2 : Nat) : Option (Nat) :=
  ((math_archHypot N v1 v2).bind fun v3 => (some v3))
def math_Hypot (N : Nat) (v1 : Nat) (v2 : Nat) : Option (Nat) :=
  math_Hypot_g N v1 v2
set_option maxRecDepth 100000
theorem math_Hypot_t (N : Nat) (v1 : Nat) (v2 : Nat) : evF (math_Hypot_E N) [] Try.f91 [.k .float, .k .float] [.float] (v1, v2, ()) = math_Hypot N v1 v2 := by
  exact (show evF (math_Hypot_E N) [] Try.f91 [.k .float, .k .float] [.float] (v1, v2, ()) = math_Hypot_g N v1 v2 from by kernel_rfl).trans (by rfl)
noncomputable def math_Hypot_con (N : Nat) : Con := ⟨91, [.k .float, .k .float], [.float], fun x => math_Hypot N x.1 x.2.1⟩
theorem math_Hypot_s (N : Nat) : (math_Hypot_con N).Sound Try.prog :=
  Con.sound_of (c := math_Hypot_con N) (E := (math_Hypot_E N)) (idle := []) Try.func91 (by kernel_rfl) (by kernel_rfl) ⟨(allCons (math_archHypot_s N) allNil), allNil⟩ allNil (fun x y h => (math_Hypot_t N x.1 x.2.1).trans h)
/-- pub-orthodrome/pub/gonum/spatial/r2.Norm -/
noncomputable def r2_Norm_E (N : Nat) : Env := ⟨Try.prog, N, [math_Hypot_con N], [(0, ⟨[], [], [0], [], none⟩), (1, ⟨[], [], [1], [1], none⟩)], kdL [], []⟩
def r2_Norm_g (N : Nat) (v1 : (Nat × (Nat × Unit))) : Option (Nat) :=
  ((math_Hypot N v1.1 v1.2.1).bind fun v2 => (some v2))
def r2_Norm (N : Nat) (v1 : (Nat × (Nat × Unit))) : Option (Nat) :=
  r2_Norm_g N v1
set_option maxRecDepth 100000
theorem r2_Norm_t (N : Nat) (v1 : (Nat × (Nat × Unit))) : evF (r2_Norm_E N) [] Try.f49 [.k (.pair .float (.pair .float .unit))] [.float] (v1, ()) = r2_Norm N v1 := by
  exact (show evF (r2_Norm_E N) [] Try.f49 [.k (.pair .float (.pair .float .unit))] [.float] (v1, ()) = r2_Norm_g N v1 from by kernel_rfl).trans (by rfl)
noncomputable def r2_Norm_con (N : Nat) : Con := ⟨49, [.k (.pair .float (.pair .float .unit))], [.float], fun x => r2_Norm N x.1⟩
theorem r2_Norm_s (N : Nat) : (r2_Norm_con N).Sound Try.prog :=
  Con.sound_of (c := r2_Norm_con N) (E := (r2_Norm_E N)) (idle := []) Try.func49 (by kernel_rfl) (by kernel_rfl) ⟨(allCons (math_Hypot_s N) allNil), allNil⟩ allNil (fun x y h => (r2_Norm_t N x.1).trans h)
/-- pub-orthodrome/pub/gonum/spatial/r2.Scale -/
noncomputable def r2_Scale_E (N : Nat) : Env := ⟨Try.prog, N, [], [(0, ⟨[], [], [0, 1], [], none⟩), (1, ⟨[], [], [0, 3, 4], [3, 4], none⟩)], kdL [], []⟩
def r2_Scale_g (N : Nat) (v1 : Nat) (v2 : (Nat × (Nat × Unit))) : Option ((Nat × (Nat × Unit))) :=
  ((Ieee.double.mul v1 v2.1).bind fun v3 => (Ieee.double.mul v1 v2.2.1).bind fun v4 => (some (v3, v4, ())))
def r2_Scale (N : Nat) (v1 : Nat) (v2 : (Nat × (Nat × Unit))) : Option ((Nat × (Nat × Unit))) :=
  r2_Scale_g N v1 v2
set_option maxRecDepth 100000
theorem r2_Scale_t (N : Nat) (v1 : Nat) (v2 : (Nat × (Nat × Unit))) : evF (r2_Scale_E N) [] Try.f90 [.k .float, .k (.pair .float (.pair .float .unit))] [(.pair .float (.pair .float .unit))] (v1, v2, ()) = r2_Scale N v1 v2 := by
  exact (show evF (r2_Scale_E N) [] Try.f90 [.k .float, .k (.pair .float (.pair .float .unit))] [(.pair .float (.pair .float .unit))] (v1, v2, ()) = r2_Scale_g N v1 v2 from by kernel_rfl).trans (by rfl)
noncomputable def r2_Scale_con (N : Nat) : Con := ⟨90, [.k .float, .k (.pair .float (.pair .float .unit))], [(.pair .float (.pair .float .unit))], fun x => r2_Scale N x.1 x.2.1⟩
theorem r2_Scale_s (N : Nat) : (r2_Scale_con N).Sound Try.prog :=
  Con.sound_of (c := r2_Scale_con N) (E := (r2_Scale_E N)) (idle := []) Try.func90 (by kernel_rfl) (by kernel_rfl) ⟨allNil, allNil⟩ allNil (fun x y h => (r2_Scale_t N x.1 x.2.1).trans h)
/-- pub-orthodrome/pub/gonum/spatial/r2.Unit -/
noncomputable def r2_Unit_E (N : Nat) : Env := ⟨Try.prog, N, [math_NaN_con N, r2_Norm_con N, r2_Scale_con N], [(0, ⟨[], [], [0], [], none⟩), (1, ⟨[], [], [1, 2], [1, 2], none⟩), (2, ⟨[], [], [1, 2, 10], [1, 2], none⟩), (3, ⟨[], [], [1, 2], [1, 2], some N⟩)], kdL [], []⟩
def r2_Unit_g0 (N : Nat) (v1 : (Nat × (Nat × Unit))) : Option ((Nat × (Nat × Unit))) :=
  (r2_Norm N (v1.1, v1.2.1, ())).bind fun v4 => (Ieee.double.div 4607182418800017408 v4).bind fun v5 => (r2_Scale N v5 (v1.1, v1.2.1, ())).bind fun v6 => (some (v6.1, v6.2.1, ()))
def r2_Unit_j0 (N : Nat) (v1 : (Nat × (Nat × Unit))) : Option ((Nat × (Nat × Unit))) :=
  gate N (r2_Unit_g0 N v1)
def r2_Unit_g (N : Nat) (v1 : (Nat × (Nat × Unit))) (c0 : (Nat × (Nat × Unit)) → Option ((Nat × (Nat × Unit)))) : Option ((Nat × (Nat × Unit))) :=
  (bif (feq v1.1 0) then (bif (feq v1.2.1 0) then ((math_NaN N).bind fun v2 => (math_NaN N).bind fun v3 => (some (v2, v3, ()))) else (c0 v1)) else (c0 v1))
def r2_Unit (N : Nat) (v1 : (Nat × (Nat × Unit))) : Option ((Nat × (Nat × Unit))) :=
  r2_Unit_g N v1 (r2_Unit_j0 N)
set_option maxRecDepth 100000
noncomputable def r2_Unit_e0 (N : Nat) (v1 : (Nat × (Nat × Unit))) : Option (HR [(.pair .float (.pair .float .unit))]) :=
  gate N (evC (r2_Unit_E N) (codeAt (bodyOf Try.f47) [1, 1]) ⟨[(1, .ref 1 0), (2, .ref 2 0)], [(1, .box [.pv .float v1.1, .pv .float v1.2.1]), (2, .box [.pv .float 0, .pv .float 0])], []⟩ (kEnd (r2_Unit_E N) [] Try.f47.results.toList [(.pair .float (.pair .float .unit))]))
theorem r2_Unit_t0 (N : Nat) (v1 : (Nat × (Nat × Unit))) : r2_Unit_e0 N v1 = r2_Unit_j0 N v1 := by
  exact (congrArg (gate N) (show evC (r2_Unit_E N) (codeAt (bodyOf Try.f47) [1, 1]) ⟨[(1, .ref 1 0), (2, .ref 2 0)], [(1, .box [.pv .float v1.1, .pv .float v1.2.1]), (2, .box [.pv .float 0, .pv .float 0])], []⟩ (kEnd (r2_Unit_E N) [] Try.f47.results.toList [(.pair .float (.pair .float .unit))]) = r2_Unit_g0 N v1 from by kernel_rfl)).trans (by rfl)
theorem r2_Unit_t (N : Nat) (v1 : (Nat × (Nat × Unit))) : evF (r2_Unit_E N) [] Try.f47 [.k (.pair .float (.pair .float .unit))] [(.pair .float (.pair .float .unit))] (v1, ()) = r2_Unit N v1 := by
  have h0 : (r2_Unit_e0 N) = (r2_Unit_j0 N) := by funext v1; exact r2_Unit_t0 N v1
  exact (show evF (r2_Unit_E N) [] Try.f47 [.k (.pair .float (.pair .float .unit))] [(.pair .float (.pair .float .unit))] (v1, ()) = r2_Unit_g N v1 (r2_Unit_e0 N) from by kernel_rfl).trans (by rw [h0]; rfl)
noncomputable def r2_Unit_con (N : Nat) : Con := ⟨47, [.k (.pair .float (.pair .float .unit))], [(.pair .float (.pair .float .unit))], fun x => r2_Unit N x.1⟩
theorem r2_Unit_s (N : Nat) : (r2_Unit_con N).Sound Try.prog :=
  Con.sound_of (c := r2_Unit_con N) (E := (r2_Unit_E N)) (idle := []) Try.func47 (by kernel_rfl) (by kernel_rfl) ⟨(allCons (math_NaN_s N) (allCons (r2_Norm_s N) (allCons (r2_Scale_s N) allNil))), allNil⟩ allNil (fun x y h => (r2_Unit_t N x.1).trans h)
/-- pub-orthodrome/impl.plainP2 -/
noncomputable def impl_plainP2_E (N : Nat) : Env := ⟨Try.prog, N, [], [(0, ⟨[], [], [0], [], none⟩), (1, ⟨[], [], [1, 2], [1, 2], none⟩)], kdL [], []⟩
def impl_plainP2_g (N : Nat) (v1 : (Nat × (Nat × Unit))) : Option ((Nat × (Nat × Unit))) :=
  (some (v1.1, v1.2.1, ()))
def impl_plainP2 (N : Nat) (v1 : (Nat × (Nat × Unit))) : Option ((Nat × (Nat × Unit))) :=
  impl_plainP2_g N v1
set_option maxRecDepth 100000
theorem impl_plainP2_t (N : Nat) (v1 : (Nat × (Nat × Unit))) : evF (impl_plainP2_E N) [] Try.f46 [.k (.pair .float (.pair .float .unit))] [(.pair .float (.pair .float .unit))] (v1, ()) = impl_plainP2 N v1 := by
  exact (show evF (impl_plainP2_E N) [] Try.f46 [.k (.pair .float (.pair .float .unit))] [(.pair .float (.pair .float .unit))] (v1, ()) = impl_plainP2_g N v1 from by kernel_rfl).trans (by rfl)
noncomputable def impl_plainP2_con (N : Nat) : Con := ⟨46, [.k (.pair .float (.pair .float .unit))], [(.pair .float (.pair .float .unit))], fun x => impl_plainP2 N x.1⟩
theorem impl_plainP2_s (N : Nat) : (impl_plainP2_con N).Sound Try.prog :=
  Con.sound_of (c := impl_plainP2_con N) (E := (impl_plainP2_E N)) (idle := []) Try.func46 (by kernel_rfl) (by kernel_rfl) ⟨allNil, allNil⟩ allNil (fun x y h => (impl_plainP2_t N x.1).trans h)
/-- pub-orthodrome/impl.Unit2 -/
noncomputable def impl_Unit2_E (N : Nat) : Env := ⟨Try.prog, N, [impl_vec2_con N, r2_Unit_con N, impl_plainP2_con N], [(0, ⟨[], [], [0], [], none⟩), (1, ⟨[], [], [1, 2], [1, 2], none⟩)], kdL [], []⟩
def impl_Unit2_g (N : Nat) (v1 : (Nat × (Nat × Unit))) : Option ((Nat × (Nat × Unit))) :=
  ((impl_vec2 N (v1.1, v1.2.1, ())).bind fun v2 => (r2_Unit N v2).bind fun v3 => (impl_plainP2 N v3).bind fun v4 => (some (v4.1, v4.2.1, ())))
def impl_Unit2 (N : Nat) (v1 : (Nat × (Nat × Unit))) : Option ((Nat × (Nat × Unit))) :=
  impl_Unit2_g N v1
set_option maxRecDepth 100000
theorem impl_Unit2_t (N : Nat) (v1 : (Nat × (Nat × Unit))) : evF (impl_Unit2_E N) [] Try.f12 [.k (.pair .float (.pair .float .unit))] [(.pair .float (.pair .float .unit))] (v1, ()) = impl_Unit2 N v1 := by
  exact (show evF (impl_Unit2_E N) [] Try.f12 [.k (.pair .float (.pair .float .unit))] [(.pair .float (.pair .float .unit))] (v1, ()) = impl_Unit2_g N v1 from by kernel_rfl).trans (by rfl)
noncomputable def impl_Unit2_con (N : Nat) : Con := ⟨12, [.k (.pair .float (.pair .float .unit))], [(.pair .float (.pair .float .unit))], fun x => impl_Unit2 N x.1⟩
theorem impl_Unit2_s (N : Nat) : (impl_Unit2_con N).Sound Try.prog :=
  Con.sound_of (c := impl_Unit2_con N) (E := (impl_Unit2_E N)) (idle := []) Try.func12 (by kernel_rfl) (by kernel_rfl) ⟨(allCons (impl_vec2_s N) (allCons (r2_Unit_s N) (allCons (impl_plainP2_s N) allNil))), allNil⟩ allNil (fun x y h => (impl_Unit2_t N x.1).trans h)
/-- pub-orthodrome/impl.Length2 -/
noncomputable def impl_Length2_E (N : Nat) : Env := ⟨Try.prog, N, [impl_vec2_con N, r2_Norm_con N], [(0, ⟨[], [], [0], [], none⟩), (1, ⟨[], [], [1], [1], none⟩)], kdL [], []⟩
def impl_Length2_g (N : Nat) (v1 : (Nat × (Nat × Unit))) : Option (Nat) :=
  ((impl_vec2 N (v1.1, v1.2.1, ())).bind fun v2 => (r2_Norm N v2).bind fun v3 => (some v3))
def impl_Length2 (N : Nat) (v1 : (Nat × (Nat × Unit))) : Option (Nat) :=
  impl_Length2_g N v1
set_option maxRecDepth 100000
theorem impl_Length2_t (N : Nat) (v1 : (Nat × (Nat × Unit))) : evF (impl_Length2_E N) [] Try.f13 [.k (.pair .float (.pair .float .unit))] [.float] (v1, ()) = impl_Length2 N v1 := by
  exact (show evF (impl_Length2_E N) [] Try.f13 [.k (.pair .float (.pair .float .unit))] [.float] (v1, ()) = impl_Length2_g N v1 from by kernel_rfl).trans (by rfl)
noncomputable def impl_Length2_con (N : Nat) : Con := ⟨13, [.k (.pair .float (.pair .float .unit))], [.float], fun x => impl_Length2 N x.1⟩
theorem impl_Length2_s (N : Nat) : (impl_Length2_con N).Sound Try.prog :=
  Con.sound_of (c := impl_Length2_con N) (E := (impl_Length2_E N)) (idle := []) Try.func13 (by kernel_rfl) (by kernel_rfl) ⟨(allCons (impl_vec2_s N) (allCons (r2_Norm_s N) allNil)), allNil⟩ allNil (fun x y h => (impl_Length2_t N x.1).trans h)
/-- pub-orthodrome/pub/gonum/spatial/r2.Norm2 -/
noncomputable def r2_Norm2_E (N : Nat) : Env := ⟨Try.prog, N, [], [(0, ⟨[], [], [0], [], none⟩), (1, ⟨[], [], [1], [1], none⟩)], kdL [], []⟩
def r2_Norm2_g (N : Nat) (v1 : (Nat × (Nat × Unit))) : Option (Nat) :=
  ((Ieee.double.mul v1.1 v1.1).bind fun v2 => (Ieee.double.mul v1.2.1 v1.2.1).bind fun v3 => (Ieee.double.add v2 v3).bind fun v4 => (some v4))
def r2_Norm2 (N : Nat) (v1 : (Nat × (Nat × Unit))) : Option (Nat) :=
  r2_Norm2_g N v1
set_option maxRecDepth 100000
theorem r2_Norm2_t (N : Nat) (v1 : (Nat × (Nat × Unit))) : evF (r2_Norm2_E N) [] Try.f52 [.k (.pair .float (.pair .float .unit))] [.float] (v1, ()) = r2_Norm2 N v1 := by
  exact (show evF (r2_Norm2_E N) [] Try.f52 [.k (.pair .float (.pair .float .unit))] [.float] (v1, ()) = r2_Norm2_g N v1 from by kernel_rfl).trans (by rfl)
noncomputable def r2_Norm2_con (N : Nat) : Con := ⟨52, [.k (.pair .float (.pair .float .unit))], [.float], fun x => r2_Norm2 N x.1⟩
theorem r2_Norm2_s (N : Nat) : (r2_Norm2_con N).Sound Try.prog :=
  Con.sound_of (c := r2_Norm2_con N) (E := (r2_Norm2_E N)) (idle := []) Try.func52 (by kernel_rfl) (by kernel_rfl) ⟨allNil, allNil⟩ allNil (fun x y h => (r2_Norm2_t N x.1).trans h)
/-- pub-orthodrome/impl.Square2 -/
noncomputable def impl_Square2_E (N : Nat) : Env := ⟨Try.prog, N, [impl_vec2_con N, r2_Norm2_con N], [(0, ⟨[], [], [0], [], none⟩), (1, ⟨[], [], [1], [1], none⟩)], kdL [], []⟩
def impl_Square2_g (N : Nat) (v1 : (Nat × (Nat × Unit))) : Option (Nat) :=
  ((impl_vec2 N (v1.1, v1.2.1, ())).bind fun v2 => (r2_Norm2 N v2).bind fun v3 => (some v3))
def impl_Square2 (N : Nat) (v1 : (Nat × (Nat × Unit))) : Option (Nat) :=
  impl_Square2_g N v1
set_option maxRecDepth 100000
theorem impl_Square2_t (N : Nat) (v1 : (Nat × (Nat × Unit))) : evF (impl_Square2_E N) [] Try.f15 [.k (.pair .float (.pair .float .unit))] [.float] (v1, ()) = impl_Square2 N v1 := by
  exact (show evF (impl_Square2_E N) [] Try.f15 [.k (.pair .float (.pair .float .unit))] [.float] (v1, ()) = impl_Square2_g N v1 from by kernel_rfl).trans (by rfl)
noncomputable def impl_Square2_con (N : Nat) : Con := ⟨15, [.k (.pair .float (.pair .float .unit))], [.float], fun x => impl_Square2 N x.1⟩
theorem impl_Square2_s (N : Nat) : (impl_Square2_con N).Sound Try.prog :=
  Con.sound_of (c := impl_Square2_con N) (E := (impl_Square2_E N)) (idle := []) Try.func15 (by kernel_rfl) (by kernel_rfl) ⟨(allCons (impl_vec2_s N) (allCons (r2_Norm2_s N) allNil)), allNil⟩ allNil (fun x y h => (impl_Square2_t N x.1).trans h)
/-- math.Float64bits -/
def math_Float64bits (N : Nat) (v1 : Nat) : Option Int := some ((v1 : Nat) : Int)
noncomputable def math_Float64bits_con (N : Nat) : Con := ⟨51, [.k .float], [(.int .u64)], fun x => math_Float64bits N x.1⟩
theorem math_Float64bits_s (N : Nat) : (math_Float64bits_con N).Sound Try.prog := bits_of Try.func51 (by kernel_rfl) (by kernel_rfl) (by kernel_rfl) (by kernel_rfl)
/-- math.Abs -/
noncomputable def math_Abs_E (N : Nat) : Env := ⟨Try.prog, N, [math_Float64bits_con N, math_Float64frombits_con N], [(0, ⟨[], [], [0], [], none⟩), (1, ⟨[], [], [0], [], none⟩)], kdL [], []⟩
def math_Abs_g (N : Nat) (v1 : Nat) : Option (Nat) :=
  ((math_Float64bits N v1).bind fun v2 => (math_Float64frombits N (bits .andNot .u64 v2 9223372036854775808)).bind fun v3 => (some v3))
def math_Abs (N : Nat) (v1 : Nat) : Option (Nat) :=
  math_Abs_g N v1
set_option maxRecDepth 100000
theorem math_Abs_t (N : Nat) (v1 : Nat) : evF (math_Abs_E N) [] Try.f14 [.k .float] [.float] (v1, ()) = math_Abs N v1 := by
  exact (show evF (math_Abs_E N) [] Try.f14 [.k .float] [.float] (v1, ()) = math_Abs_g N v1 from by kernel_rfl).trans (by rfl)
noncomputable def math_Abs_con (N : Nat) : Con := ⟨14, [.k .float], [.float], fun x => math_Abs N x.1⟩
theorem math_Abs_s (N : Nat) : (math_Abs_con N).Sound Try.prog :=
  Con.sound_of (c := math_Abs_con N) (E := (math_Abs_E N)) (idle := []) Try.func14 (by kernel_rfl) (by kernel_rfl) ⟨(allCons (math_Float64bits_s N) (allCons (math_Float64frombits_s N) allNil)), allNil⟩ allNil (fun x y h => (math_Abs_t N x.1).trans h)
/-- pub-orthodrome/laws.FnUnit2 -/
noncomputable def laws_FnUnit2_E (N : Nat) : Env := ⟨Try.prog, N, [laws_whole2_con N, impl_Unit2_con N, impl_Length2_con N, impl_Square2_con N, math_Abs_con N], [(0, ⟨[], [], [0], [], none⟩), (1, ⟨[], [], [1], [1], none⟩), (2, ⟨[], [], [1, 13], [1], none⟩), (3, ⟨[], [], [1], [1], none⟩), (4, ⟨[], [], [1, 3, 4], [1, 3], none⟩)], kdL [(24, (.pair .float (.pair .float .unit)))], []⟩
def laws_FnUnit2_g (N : Nat) (v1 : (Nat × (Nat × Unit))) : Option (Bool) :=
  ((laws_whole2 N ([(v1.1, v1.2.1, ())] : List (Nat × (Nat × Unit)))).bind fun v2 => bif (!v2) then (some true) else (bif ((feq v1.1 0) && ((feq v1.2.1 0) && true)) then (some true) else ((impl_Unit2 N (v1.1, v1.2.1, ())).bind fun v3 => (impl_Length2 N (v1.1, v1.2.1, ())).bind fun v4 => ((impl_Square2 N (v3.1, v3.2.1, ())).bind fun v5 => (Ieee.double.sub v5 4607182418800017408).bind fun v6 => (math_Abs N v6).bind fun v7 => bif (flt v7 4427038433705197568) then ((Ieee.double.mul v3.1 v4).bind fun v8 => (Ieee.double.sub v8 v1.1).bind fun v9 => (math_Abs N v9).bind fun v10 => bif (flt v10 4517110426252607488) then ((Ieee.double.mul v3.2.1 v4).bind fun v11 => (Ieee.double.sub v11 v1.2.1).bind fun v12 => (math_Abs N v12).bind fun v13 => (some (flt v13 4517110426252607488))) else (some false)) else (some false)))))
def laws_FnUnit2 (N : Nat) (v1 : (Nat × (Nat × Unit))) : Option (Bool) :=
  laws_FnUnit2_g N v1
set_option maxRecDepth 100000
theorem laws_FnUnit2_t (N : Nat) (v1 : (Nat × (Nat × Unit))) : evF (laws_FnUnit2_E N) [] Try.f3 [.k (.pair .float (.pair .float .unit))] [.bool] (v1, ()) = laws_FnUnit2 N v1 := by
  exact (show evF (laws_FnUnit2_E N) [] Try.f3 [.k (.pair .float (.pair .float .unit))] [.bool] (v1, ()) = laws_FnUnit2_g N v1 from by kernel_rfl).trans (by rfl)
noncomputable def laws_FnUnit2_con (N : Nat) : Con := ⟨3, [.k (.pair .float (.pair .float .unit))], [.bool], fun x => laws_FnUnit2 N x.1⟩
theorem laws_FnUnit2_s (N : Nat) : (laws_FnUnit2_con N).Sound Try.prog :=
  Con.sound_of (c := laws_FnUnit2_con N) (E := (laws_FnUnit2_E N)) (idle := []) Try.func3 (by kernel_rfl) (by kernel_rfl) ⟨(allCons (laws_whole2_s N) (allCons (impl_Unit2_s N) (allCons (impl_Length2_s N) (allCons (impl_Square2_s N) (allCons (math_Abs_s N) allNil))))), allNil⟩ allNil (fun x y h => (laws_FnUnit2_t N x.1).trans h)
/-- pub-orthodrome/laws.off3 -/
noncomputable def laws_off3_E (N : Nat) : Env := ⟨Try.prog, N, [], [(0, ⟨[], [], [0], [], none⟩), (1, ⟨[], [], [1], [1], none⟩)], kdL [(22, .float)], []⟩
def laws_off3_g (N : Nat) (v1 : (Nat × (Nat × (Nat × Unit)))) : Option (((List Nat) × Unit)) :=
  (some (([v1.1, v1.2.1, v1.2.2.1] : List Nat), ()))
def laws_off3 (N : Nat) (v1 : (Nat × (Nat × (Nat × Unit)))) : Option (((List Nat) × Unit)) :=
  laws_off3_g N v1
set_option maxRecDepth 100000
theorem laws_off3_t (N : Nat) (v1 : (Nat × (Nat × (Nat × Unit)))) : evF2 (laws_off3_E N) [] Try.f33 [.k (.pair .float (.pair .float (.pair .float .unit)))] [⟨[.row 22 .float], [none]⟩] (v1, ()) = laws_off3 N v1 := by
  exact (show evF2 (laws_off3_E N) [] Try.f33 [.k (.pair .float (.pair .float (.pair .float .unit)))] [⟨[.row 22 .float], [none]⟩] (v1, ()) = laws_off3_g N v1 from by kernel_rfl).trans (by rfl)
noncomputable def laws_off3_con (N : Nat) : Con2 := ⟨33, [.k (.pair .float (.pair .float (.pair .float .unit)))], [⟨[.row 22 .float], [none]⟩], fun x => laws_off3 N x.1⟩
theorem laws_off3_s (N : Nat) : (laws_off3_con N).Sound Try.prog :=
  Con2.sound_of (c := laws_off3_con N) (E := (laws_off3_E N)) (idle := []) Try.func33 (by kernel_rfl) (by kernel_rfl) ⟨allNil, allNil⟩ allNil (fun x y h => (laws_off3_t N x.1).trans h)
/-- pub-orthodrome/laws.whole3 -/
noncomputable def laws_whole3_E (N : Nat) : Env := ⟨Try.prog, N, [spec_Grid_con N], [(0, ⟨[], [], [0], [], none⟩), (1, ⟨[], [], [0], [], none⟩), (2, ⟨[], [], [5, 6, 7], [], none⟩), (3, ⟨[], [], [5, 6, 7], [], none⟩), (4, ⟨[], [], [4, 5, 6, 7], [4], none⟩), (5, ⟨[], [], [5, 6, 7, 15], [], none⟩), (6, ⟨[], [], [5, 6, 7], [], none⟩), (7, ⟨[], [], [], [], none⟩)], kdL [(36, (.list .float))], [laws_off3_con N]⟩
def laws_whole3_g0 (N : Nat) (v1 : (List (Nat × (Nat × (Nat × Unit))))) (r0 : Int → Option (Bool)) (v5 : Int) : Option (Bool) :=
  (bif (decide ((v5 : Int) < (v1.length : Int))) then ((nth v1 v5).bind fun v6 => ((laws_off3 N (v6.1, v6.2.1, v6.2.2.1, ())).bind fun v7 => (spec_Grid N ([v7.1] : List (List Nat)) 3 4697254411347427328).bind fun v8 => (bif (!v8) then (some false) else ((r0 (IntKind.i64.wrap (v5 + 1))))))) else (some true))
def laws_whole3_l0 (N : Nat) : Nat → (List (Nat × (Nat × (Nat × Unit)))) → Int → Option (Bool)
  | 0, _, _ => none
  | n + 1, v1, v5 => laws_whole3_g0 N v1 (laws_whole3_l0 N n v1) v5
def laws_whole3_g (N : Nat) (v1 : (List (Nat × (Nat × (Nat × Unit))))) (c0 : (List (Nat × (Nat × (Nat × Unit)))) → Int → Option (Bool)) : Option (Bool) :=
  ((c0 v1 0))
def laws_whole3 (N : Nat) (v1 : (List (Nat × (Nat × (Nat × Unit))))) : Option (Bool) :=
  laws_whole3_g N v1 (laws_whole3_l0 N N)
set_option maxRecDepth 100000
noncomputable def laws_whole3_e0 (N : Nat) (n : Nat) (v1 : (List (Nat × (Nat × (Nat × Unit))))) (v5 : Int) : Option (HR [.bool]) :=
  loopN (advOf (laws_whole3_E N) (codeAt (bodyOf Try.f16) [1, 0, 1, 0, 0])) (evC (laws_whole3_E N) (codeAt (bodyOf Try.f16) [1, 0, 1, 0, 0])) n ⟨[(5, .pv (.list (.pair .float (.pair .float (.pair .float .unit)))) v1), (6, .pv (.int .i64) (v1.length : Int)), (7, .pv (.int .i64) v5)], [], []⟩ (kBlock 0 (kSeq (advOf (laws_whole3_E N) (codeAt (bodyOf Try.f16) [1, 1])) (evC (laws_whole3_E N) (codeAt (bodyOf Try.f16) [1, 1])) (kEnd (laws_whole3_E N) [] Try.f16.results.toList [.bool])))
theorem laws_whole3_t0 (N : Nat) : ∀ (n : Nat) (v1 : (List (Nat × (Nat × (Nat × Unit))))) (v5 : Int), laws_whole3_e0 N n v1 v5 = laws_whole3_l0 N n v1 v5
  | 0, _, _ => rfl
  | n + 1, v1, v5 => by
    have h : laws_whole3_e0 N n v1 = laws_whole3_l0 N n v1 := by funext v5; exact laws_whole3_t0 N n v1 v5
    exact (show laws_whole3_e0 N (n + 1) v1 v5 = laws_whole3_g0 N v1 (laws_whole3_e0 N n v1) v5 from by kernel_rfl).trans (by rw [h]; rfl)
theorem laws_whole3_t (N : Nat) (v1 : (List (Nat × (Nat × (Nat × Unit))))) : evF (laws_whole3_E N) [] Try.f16 [.k (.list (.pair .float (.pair .float (.pair .float .unit))))] [.bool] (v1, ()) = laws_whole3 N v1 := by
  have h0 : (laws_whole3_e0 N N) = (laws_whole3_l0 N N) := by funext v1 v5; exact laws_whole3_t0 N N v1 v5
  exact (show evF (laws_whole3_E N) [] Try.f16 [.k (.list (.pair .float (.pair .float (.pair .float .unit))))] [.bool] (v1, ()) = laws_whole3_g N v1 (laws_whole3_e0 N N) from by kernel_rfl).trans (by rw [h0]; rfl)
noncomputable def laws_whole3_con (N : Nat) : Con := ⟨16, [.k (.list (.pair .float (.pair .float (.pair .float .unit))))], [.bool], fun x => laws_whole3 N x.1⟩
theorem laws_whole3_s (N : Nat) : (laws_whole3_con N).Sound Try.prog :=
  Con.sound_of (c := laws_whole3_con N) (E := (laws_whole3_E N)) (idle := []) Try.func16 (by kernel_rfl) (by kernel_rfl) ⟨(allCons (spec_Grid_s N) allNil), (allCons (laws_off3_s N) allNil)⟩ allNil (fun x y h => (laws_whole3_t N x.1).trans h)
/-- pub-orthodrome/impl.vec3 -/
noncomputable def impl_vec3_E (N : Nat) : Env := ⟨Try.prog, N, [], [(0, ⟨[], [], [0], [], none⟩), (1, ⟨[], [], [1, 2], [1, 2], none⟩)], kdL [], []⟩
def impl_vec3_g (N : Nat) (v1 : (Nat × (Nat × (Nat × Unit)))) : Option ((Nat × (Nat × (Nat × Unit)))) :=
  (some (v1.1, v1.2.1, v1.2.2.1, ()))
def impl_vec3 (N : Nat) (v1 : (Nat × (Nat × (Nat × Unit)))) : Option ((Nat × (Nat × (Nat × Unit)))) :=
  impl_vec3_g N v1
set_option maxRecDepth 100000
theorem impl_vec3_t (N : Nat) (v1 : (Nat × (Nat × (Nat × Unit)))) : evF (impl_vec3_E N) [] Try.f55 [.k (.pair .float (.pair .float (.pair .float .unit)))] [(.pair .float (.pair .float (.pair .float .unit)))] (v1, ()) = impl_vec3 N v1 := by
  exact (show evF (impl_vec3_E N) [] Try.f55 [.k (.pair .float (.pair .float (.pair .float .unit)))] [(.pair .float (.pair .float (.pair .float .unit)))] (v1, ()) = impl_vec3_g N v1 from by kernel_rfl).trans (by rfl)
noncomputable def impl_vec3_con (N : Nat) : Con := ⟨55, [.k (.pair .float (.pair .float (.pair .float .unit)))], [(.pair .float (.pair .float (.pair .float .unit)))], fun x => impl_vec3 N x.1⟩
theorem impl_vec3_s (N : Nat) : (impl_vec3_con N).Sound Try.prog :=
  Con.sound_of (c := impl_vec3_con N) (E := (impl_vec3_E N)) (idle := []) Try.func55 (by kernel_rfl) (by kernel_rfl) ⟨allNil, allNil⟩ allNil (fun x y h => (impl_vec3_t N x.1).trans h)
/-- pub-orthodrome/pub/gonum/spatial/r3.Norm -/
noncomputable def r3_Norm_E (N : Nat) : Env := ⟨Try.prog, N, [math_Hypot_con N], [(0, ⟨[], [], [0], [], none⟩), (1, ⟨[], [], [1], [1], none⟩)], kdL [], []⟩
def r3_Norm_g (N : Nat) (v1 : (Nat × (Nat × (Nat × Unit)))) : Option (Nat) :=
  ((math_Hypot N v1.2.1 v1.2.2.1).bind fun v2 => (math_Hypot N v1.1 v2).bind fun v3 => (some v3))
def r3_Norm (N : Nat) (v1 : (Nat × (Nat × (Nat × Unit)))) : Option (Nat) :=
  r3_Norm_g N v1
set_option maxRecDepth 100000
theorem r3_Norm_t (N : Nat) (v1 : (Nat × (Nat × (Nat × Unit)))) : evF (r3_Norm_E N) [] Try.f56 [.k (.pair .float (.pair .float (.pair .float .unit)))] [.float] (v1, ()) = r3_Norm N v1 := by
  exact (show evF (r3_Norm_E N) [] Try.f56 [.k (.pair .float (.pair .float (.pair .float .unit)))] [.float] (v1, ()) = r3_Norm_g N v1 from by kernel_rfl).trans (by rfl)
noncomputable def r3_Norm_con (N : Nat) : Con := ⟨56, [.k (.pair .float (.pair .float (.pair .float .unit)))], [.float], fun x => r3_Norm N x.1⟩
theorem r3_Norm_s (N : Nat) : (r3_Norm_con N).Sound Try.prog :=
  Con.sound_of (c := r3_Norm_con N) (E := (r3_Norm_E N)) (idle := []) Try.func56 (by kernel_rfl) (by kernel_rfl) ⟨(allCons (math_Hypot_s N) allNil), allNil⟩ allNil (fun x y h => (r3_Norm_t N x.1).trans h)
/-- pub-orthodrome/pub/gonum/spatial/r3.Scale -/
noncomputable def r3_Scale_E (N : Nat) : Env := ⟨Try.prog, N, [], [(0, ⟨[], [], [0, 1], [], none⟩), (1, ⟨[], [], [0, 3, 4], [3, 4], none⟩)], kdL [], []⟩
def r3_Scale_g (N : Nat) (v1 : Nat) (v2 : (Nat × (Nat × (Nat × Unit)))) : Option ((Nat × (Nat × (Nat × Unit)))) :=
  ((Ieee.double.mul v1 v2.1).bind fun v3 => (Ieee.double.mul v1 v2.2.1).bind fun v4 => (Ieee.double.mul v1 v2.2.2.1).bind fun v5 => (some (v3, v4, v5, ())))
def r3_Scale (N : Nat) (v1 : Nat) (v2 : (Nat × (Nat × (Nat × Unit)))) : Option ((Nat × (Nat × (Nat × Unit)))) :=
  r3_Scale_g N v1 v2
set_option maxRecDepth 100000
theorem r3_Scale_t (N : Nat) (v1 : Nat) (v2 : (Nat × (Nat × (Nat × Unit)))) : evF (r3_Scale_E N) [] Try.f92 [.k .float, .k (.pair .float (.pair .float (.pair .float .unit)))] [(.pair .float (.pair .float (.pair .float .unit)))] (v1, v2, ()) = r3_Scale N v1 v2 := by
  exact (show evF (r3_Scale_E N) [] Try.f92 [.k .float, .k (.pair .float (.pair .float (.pair .float .unit)))] [(.pair .float (.pair .float (.pair .float .unit)))] (v1, v2, ()) = r3_Scale_g N v1 v2 from by kernel_rfl).trans (by rfl)
noncomputable def r3_Scale_con (N : Nat) : Con := ⟨92, [.k .float, .k (.pair .float (.pair .float (.pair .float .unit)))], [(.pair .float (.pair .float (.pair .float .unit)))], fun x => r3_Scale N x.1 x.2.1⟩
theorem r3_Scale_s (N : Nat) : (r3_Scale_con N).Sound Try.prog :=
  Con.sound_of (c := r3_Scale_con N) (E := (r3_Scale_E N)) (idle := []) Try.func92 (by kernel_rfl) (by kernel_rfl) ⟨allNil, allNil⟩ allNil (fun x y h => (r3_Scale_t N x.1 x.2.1).trans h)
/-- pub-orthodrome/pub/gonum/spatial/r3.Unit -/
noncomputable def r3_Unit_E (N : Nat) : Env := ⟨Try.prog, N, [math_NaN_con N, r3_Norm_con N, r3_Scale_con N], [(0, ⟨[], [], [0], [], none⟩), (1, ⟨[], [], [1, 2], [1, 2], none⟩), (2, ⟨[], [], [1, 2, 15], [1, 2], some N⟩), (3, ⟨[], [], [1, 2], [1, 2], some N⟩)], kdL [], []⟩
def r3_Unit_g1 (N : Nat) (v1 : (Nat × (Nat × (Nat × Unit)))) : Option ((Nat × (Nat × (Nat × Unit)))) :=
  (r3_Norm N (v1.1, v1.2.1, v1.2.2.1, ())).bind fun v5 => (Ieee.double.div 4607182418800017408 v5).bind fun v6 => (r3_Scale N v6 (v1.1, v1.2.1, v1.2.2.1, ())).bind fun v7 => (some (v7.1, v7.2.1, v7.2.2.1, ()))
def r3_Unit_j1 (N : Nat) (v1 : (Nat × (Nat × (Nat × Unit)))) : Option ((Nat × (Nat × (Nat × Unit)))) :=
  gate N (r3_Unit_g1 N v1)
def r3_Unit_g0 (N : Nat) (v1 : (Nat × (Nat × (Nat × Unit)))) (c1 : (Nat × (Nat × (Nat × Unit))) → Option ((Nat × (Nat × (Nat × Unit))))) : Option ((Nat × (Nat × (Nat × Unit)))) :=
  (c1 v1)
def r3_Unit_j0 (N : Nat) (v1 : (Nat × (Nat × (Nat × Unit)))) : Option ((Nat × (Nat × (Nat × Unit)))) :=
  gate N (r3_Unit_g0 N v1 (r3_Unit_j1 N))
def r3_Unit_g (N : Nat) (v1 : (Nat × (Nat × (Nat × Unit)))) (c1 : (Nat × (Nat × (Nat × Unit))) → Option ((Nat × (Nat × (Nat × Unit))))) (c0 : (Nat × (Nat × (Nat × Unit))) → Option ((Nat × (Nat × (Nat × Unit))))) : Option ((Nat × (Nat × (Nat × Unit)))) :=
  (bif (feq v1.1 0) then (bif (feq v1.2.1 0) then (gate N (bif (feq v1.2.2.1 0) then ((math_NaN N).bind fun v2 => (math_NaN N).bind fun v3 => (math_NaN N).bind fun v4 => (some (v2, v3, v4, ()))) else (c1 v1))) else (c0 v1)) else (c0 v1))
def r3_Unit (N : Nat) (v1 : (Nat × (Nat × (Nat × Unit)))) : Option ((Nat × (Nat × (Nat × Unit)))) :=
  r3_Unit_g N v1 (r3_Unit_j1 N) (r3_Unit_j0 N)
set_option maxRecDepth 100000
noncomputable def r3_Unit_e1 (N : Nat) (v1 : (Nat × (Nat × (Nat × Unit)))) : Option (HR [(.pair .float (.pair .float (.pair .float .unit)))]) :=
  gate N (evC (r3_Unit_E N) (codeAt (bodyOf Try.f54) [1, 1]) ⟨[(1, .ref 1 0), (2, .ref 2 0)], [(1, .box [.pv .float v1.1, .pv .float v1.2.1, .pv .float v1.2.2.1]), (2, .box [.pv .float 0, .pv .float 0, .pv .float 0])], []⟩ (kEnd (r3_Unit_E N) [] Try.f54.results.toList [(.pair .float (.pair .float (.pair .float .unit)))]))
noncomputable def r3_Unit_e0 (N : Nat) (v1 : (Nat × (Nat × (Nat × Unit)))) : Option (HR [(.pair .float (.pair .float (.pair .float .unit)))]) :=
  gate N (evC (r3_Unit_E N) (codeAt (bodyOf Try.f54) [1, 0, 1]) ⟨[(1, .ref 1 0), (2, .ref 2 0), (15, .pv .bool false)], [(1, .box [.pv .float v1.1, .pv .float v1.2.1, .pv .float v1.2.2.1]), (2, .box [.pv .float 0, .pv .float 0, .pv .float 0])], []⟩ (kSeq (advOf (r3_Unit_E N) (codeAt (bodyOf Try.f54) [1, 1])) (evC (r3_Unit_E N) (codeAt (bodyOf Try.f54) [1, 1])) (kEnd (r3_Unit_E N) [] Try.f54.results.toList [(.pair .float (.pair .float (.pair .float .unit)))])))
theorem r3_Unit_t1 (N : Nat) (v1 : (Nat × (Nat × (Nat × Unit)))) : r3_Unit_e1 N v1 = r3_Unit_j1 N v1 := by
  exact (congrArg (gate N) (show evC (r3_Unit_E N) (codeAt (bodyOf Try.f54) [1, 1]) ⟨[(1, .ref 1 0), (2, .ref 2 0)], [(1, .box [.pv .float v1.1, .pv .float v1.2.1, .pv .float v1.2.2.1]), (2, .box [.pv .float 0, .pv .float 0, .pv .float 0])], []⟩ (kEnd (r3_Unit_E N) [] Try.f54.results.toList [(.pair .float (.pair .float (.pair .float .unit)))]) = r3_Unit_g1 N v1 from by kernel_rfl)).trans (by rfl)
theorem r3_Unit_t0 (N : Nat) (v1 : (Nat × (Nat × (Nat × Unit)))) : r3_Unit_e0 N v1 = r3_Unit_j0 N v1 := by
  have h1 : (r3_Unit_e1 N) = (r3_Unit_j1 N) := by funext v1; exact r3_Unit_t1 N v1
  exact (congrArg (gate N) (show evC (r3_Unit_E N) (codeAt (bodyOf Try.f54) [1, 0, 1]) ⟨[(1, .ref 1 0), (2, .ref 2 0), (15, .pv .bool false)], [(1, .box [.pv .float v1.1, .pv .float v1.2.1, .pv .float v1.2.2.1]), (2, .box [.pv .float 0, .pv .float 0, .pv .float 0])], []⟩ (kSeq (advOf (r3_Unit_E N) (codeAt (bodyOf Try.f54) [1, 1])) (evC (r3_Unit_E N) (codeAt (bodyOf Try.f54) [1, 1])) (kEnd (r3_Unit_E N) [] Try.f54.results.toList [(.pair .float (.pair .float (.pair .float .unit)))])) = r3_Unit_g0 N v1 (r3_Unit_e1 N) from by kernel_rfl)).trans (by rw [h1]; rfl)
theorem r3_Unit_t (N : Nat) (v1 : (Nat × (Nat × (Nat × Unit)))) : evF (r3_Unit_E N) [] Try.f54 [.k (.pair .float (.pair .float (.pair .float .unit)))] [(.pair .float (.pair .float (.pair .float .unit)))] (v1, ()) = r3_Unit N v1 := by
  have h1 : (r3_Unit_e1 N) = (r3_Unit_j1 N) := by funext v1; exact r3_Unit_t1 N v1
  have h0 : (r3_Unit_e0 N) = (r3_Unit_j0 N) := by funext v1; exact r3_Unit_t0 N v1
  exact (show evF (r3_Unit_E N) [] Try.f54 [.k (.pair .float (.pair .float (.pair .float .unit)))] [(.pair .float (.pair .float (.pair .float .unit)))] (v1, ()) = r3_Unit_g N v1 (r3_Unit_e1 N) (r3_Unit_e0 N) from by kernel_rfl).trans (by rw [h1, h0]; rfl)
noncomputable def r3_Unit_con (N : Nat) : Con := ⟨54, [.k (.pair .float (.pair .float (.pair .float .unit)))], [(.pair .float (.pair .float (.pair .float .unit)))], fun x => r3_Unit N x.1⟩
theorem r3_Unit_s (N : Nat) : (r3_Unit_con N).Sound Try.prog :=
  Con.sound_of (c := r3_Unit_con N) (E := (r3_Unit_E N)) (idle := []) Try.func54 (by kernel_rfl) (by kernel_rfl) ⟨(allCons (math_NaN_s N) (allCons (r3_Norm_s N) (allCons (r3_Scale_s N) allNil))), allNil⟩ allNil (fun x y h => (r3_Unit_t N x.1).trans h)
/-- pub-orthodrome/impl.plainP3 -/
noncomputable def impl_plainP3_E (N : Nat) : Env := ⟨Try.prog, N, [], [(0, ⟨[], [], [0], [], none⟩), (1, ⟨[], [], [1, 2], [1, 2], none⟩)], kdL [], []⟩
def impl_plainP3_g (N : Nat) (v1 : (Nat × (Nat × (Nat × Unit)))) : Option ((Nat × (Nat × (Nat × Unit)))) :=
  (some (v1.1, v1.2.1, v1.2.2.1, ()))
def impl_plainP3 (N : Nat) (v1 : (Nat × (Nat × (Nat × Unit)))) : Option ((Nat × (Nat × (Nat × Unit)))) :=
  impl_plainP3_g N v1
set_option maxRecDepth 100000
theorem impl_plainP3_t (N : Nat) (v1 : (Nat × (Nat × (Nat × Unit)))) : evF (impl_plainP3_E N) [] Try.f53 [.k (.pair .float (.pair .float (.pair .float .unit)))] [(.pair .float (.pair .float (.pair .float .unit)))] (v1, ()) = impl_plainP3 N v1 := by
  exact (show evF (impl_plainP3_E N) [] Try.f53 [.k (.pair .float (.pair .float (.pair .float .unit)))] [(.pair .float (.pair .float (.pair .float .unit)))] (v1, ()) = impl_plainP3_g N v1 from by kernel_rfl).trans (by rfl)
noncomputable def impl_plainP3_con (N : Nat) : Con := ⟨53, [.k (.pair .float (.pair .float (.pair .float .unit)))], [(.pair .float (.pair .float (.pair .float .unit)))], fun x => impl_plainP3 N x.1⟩
theorem impl_plainP3_s (N : Nat) : (impl_plainP3_con N).Sound Try.prog :=
  Con.sound_of (c := impl_plainP3_con N) (E := (impl_plainP3_E N)) (idle := []) Try.func53 (by kernel_rfl) (by kernel_rfl) ⟨allNil, allNil⟩ allNil (fun x y h => (impl_plainP3_t N x.1).trans h)
/-- pub-orthodrome/impl.Unit3 -/
noncomputable def impl_Unit3_E (N : Nat) : Env := ⟨Try.prog, N, [impl_vec3_con N, r3_Unit_con N, impl_plainP3_con N], [(0, ⟨[], [], [0], [], none⟩), (1, ⟨[], [], [1, 2], [1, 2], none⟩)], kdL [], []⟩
def impl_Unit3_g (N : Nat) (v1 : (Nat × (Nat × (Nat × Unit)))) : Option ((Nat × (Nat × (Nat × Unit)))) :=
  ((impl_vec3 N (v1.1, v1.2.1, v1.2.2.1, ())).bind fun v2 => (r3_Unit N v2).bind fun v3 => (impl_plainP3 N v3).bind fun v4 => (some (v4.1, v4.2.1, v4.2.2.1, ())))
def impl_Unit3 (N : Nat) (v1 : (Nat × (Nat × (Nat × Unit)))) : Option ((Nat × (Nat × (Nat × Unit)))) :=
  impl_Unit3_g N v1
set_option maxRecDepth 100000
theorem impl_Unit3_t (N : Nat) (v1 : (Nat × (Nat × (Nat × Unit)))) : evF (impl_Unit3_E N) [] Try.f17 [.k (.pair .float (.pair .float (.pair .float .unit)))] [(.pair .float (.pair .float (.pair .float .unit)))] (v1, ()) = impl_Unit3 N v1 := by
  exact (show evF (impl_Unit3_E N) [] Try.f17 [.k (.pair .float (.pair .float (.pair .float .unit)))] [(.pair .float (.pair .float (.pair .float .unit)))] (v1, ()) = impl_Unit3_g N v1 from by kernel_rfl).trans (by rfl)
noncomputable def impl_Unit3_con (N : Nat) : Con := ⟨17, [.k (.pair .float (.pair .float (.pair .float .unit)))], [(.pair .float (.pair .float (.pair .float .unit)))], fun x => impl_Unit3 N x.1⟩
theorem impl_Unit3_s (N : Nat) : (impl_Unit3_con N).Sound Try.prog :=
  Con.sound_of (c := impl_Unit3_con N) (E := (impl_Unit3_E N)) (idle := []) Try.func17 (by kernel_rfl) (by kernel_rfl) ⟨(allCons (impl_vec3_s N) (allCons (r3_Unit_s N) (allCons (impl_plainP3_s N) allNil))), allNil⟩ allNil (fun x y h => (impl_Unit3_t N x.1).trans h)
/-- pub-orthodrome/impl.Length3 -/
noncomputable def impl_Length3_E (N : Nat) : Env := ⟨Try.prog, N, [impl_vec3_con N, r3_Norm_con N], [(0, ⟨[], [], [0], [], none⟩), (1, ⟨[], [], [1], [1], none⟩)], kdL [], []⟩
def impl_Length3_g (N : Nat) (v1 : (Nat × (Nat × (Nat × Unit)))) : Option (Nat) :=
  ((impl_vec3 N (v1.1, v1.2.1, v1.2.2.1, ())).bind fun v2 => (r3_Norm N v2).bind fun v3 => (some v3))
def impl_Length3 (N : Nat) (v1 : (Nat × (Nat × (Nat × Unit)))) : Option (Nat) :=
  impl_Length3_g N v1
set_option maxRecDepth 100000
theorem impl_Length3_t (N : Nat) (v1 : (Nat × (Nat × (Nat × Unit)))) : evF (impl_Length3_E N) [] Try.f18 [.k (.pair .float (.pair .float (.pair .float .unit)))] [.float] (v1, ()) = impl_Length3 N v1 := by
  exact (show evF (impl_Length3_E N) [] Try.f18 [.k (.pair .float (.pair .float (.pair .float .unit)))] [.float] (v1, ()) = impl_Length3_g N v1 from by kernel_rfl).trans (by rfl)
noncomputable def impl_Length3_con (N : Nat) : Con := ⟨18, [.k (.pair .float (.pair .float (.pair .float .unit)))], [.float], fun x => impl_Length3 N x.1⟩
theorem impl_Length3_s (N : Nat) : (impl_Length3_con N).Sound Try.prog :=
  Con.sound_of (c := impl_Length3_con N) (E := (impl_Length3_E N)) (idle := []) Try.func18 (by kernel_rfl) (by kernel_rfl) ⟨(allCons (impl_vec3_s N) (allCons (r3_Norm_s N) allNil)), allNil⟩ allNil (fun x y h => (impl_Length3_t N x.1).trans h)
/-- pub-orthodrome/pub/gonum/spatial/r3.Norm2 -/
noncomputable def r3_Norm2_E (N : Nat) : Env := ⟨Try.prog, N, [], [(0, ⟨[], [], [0], [], none⟩), (1, ⟨[], [], [1], [1], none⟩)], kdL [], []⟩
def r3_Norm2_g (N : Nat) (v1 : (Nat × (Nat × (Nat × Unit)))) : Option (Nat) :=
  ((Ieee.double.mul v1.1 v1.1).bind fun v2 => (Ieee.double.mul v1.2.1 v1.2.1).bind fun v3 => (Ieee.double.add v2 v3).bind fun v4 => (Ieee.double.mul v1.2.2.1 v1.2.2.1).bind fun v5 => (Ieee.double.add v4 v5).bind fun v6 => (some v6))
def r3_Norm2 (N : Nat) (v1 : (Nat × (Nat × (Nat × Unit)))) : Option (Nat) :=
  r3_Norm2_g N v1
set_option maxRecDepth 100000
theorem r3_Norm2_t (N : Nat) (v1 : (Nat × (Nat × (Nat × Unit)))) : evF (r3_Norm2_E N) [] Try.f57 [.k (.pair .float (.pair .float (.pair .float .unit)))] [.float] (v1, ()) = r3_Norm2 N v1 := by
  exact (show evF (r3_Norm2_E N) [] Try.f57 [.k (.pair .float (.pair .float (.pair .float .unit)))] [.float] (v1, ()) = r3_Norm2_g N v1 from by kernel_rfl).trans (by rfl)
noncomputable def r3_Norm2_con (N : Nat) : Con := ⟨57, [.k (.pair .float (.pair .float (.pair .float .unit)))], [.float], fun x => r3_Norm2 N x.1⟩
theorem r3_Norm2_s (N : Nat) : (r3_Norm2_con N).Sound Try.prog :=
  Con.sound_of (c := r3_Norm2_con N) (E := (r3_Norm2_E N)) (idle := []) Try.func57 (by kernel_rfl) (by kernel_rfl) ⟨allNil, allNil⟩ allNil (fun x y h => (r3_Norm2_t N x.1).trans h)
/-- pub-orthodrome/impl.Square3 -/
noncomputable def impl_Square3_E (N : Nat) : Env := ⟨Try.prog, N, [impl_vec3_con N, r3_Norm2_con N], [(0, ⟨[], [], [0], [], none⟩), (1, ⟨[], [], [1], [1], none⟩)], kdL [], []⟩
def impl_Square3_g (N : Nat) (v1 : (Nat × (Nat × (Nat × Unit)))) : Option (Nat) :=
  ((impl_vec3 N (v1.1, v1.2.1, v1.2.2.1, ())).bind fun v2 => (r3_Norm2 N v2).bind fun v3 => (some v3))
def impl_Square3 (N : Nat) (v1 : (Nat × (Nat × (Nat × Unit)))) : Option (Nat) :=
  impl_Square3_g N v1
set_option maxRecDepth 100000
theorem impl_Square3_t (N : Nat) (v1 : (Nat × (Nat × (Nat × Unit)))) : evF (impl_Square3_E N) [] Try.f19 [.k (.pair .float (.pair .float (.pair .float .unit)))] [.float] (v1, ()) = impl_Square3 N v1 := by
  exact (show evF (impl_Square3_E N) [] Try.f19 [.k (.pair .float (.pair .float (.pair .float .unit)))] [.float] (v1, ()) = impl_Square3_g N v1 from by kernel_rfl).trans (by rfl)
noncomputable def impl_Square3_con (N : Nat) : Con := ⟨19, [.k (.pair .float (.pair .float (.pair .float .unit)))], [.float], fun x => impl_Square3 N x.1⟩
theorem impl_Square3_s (N : Nat) : (impl_Square3_con N).Sound Try.prog :=
  Con.sound_of (c := impl_Square3_con N) (E := (impl_Square3_E N)) (idle := []) Try.func19 (by kernel_rfl) (by kernel_rfl) ⟨(allCons (impl_vec3_s N) (allCons (r3_Norm2_s N) allNil)), allNil⟩ allNil (fun x y h => (impl_Square3_t N x.1).trans h)
/-- pub-orthodrome/laws.FnUnit3 -/
noncomputable def laws_FnUnit3_E (N : Nat) : Env := ⟨Try.prog, N, [laws_whole3_con N, impl_Unit3_con N, impl_Length3_con N, impl_Square3_con N, math_Abs_con N], [(0, ⟨[], [], [0], [], none⟩), (1, ⟨[], [], [1], [1], none⟩), (2, ⟨[], [], [1, 13], [1], none⟩), (3, ⟨[], [], [1], [1], none⟩), (4, ⟨[], [], [1, 3, 4], [1, 3], none⟩)], kdL [(31, (.pair .float (.pair .float (.pair .float .unit))))], []⟩
def laws_FnUnit3_g (N : Nat) (v1 : (Nat × (Nat × (Nat × Unit)))) : Option (Bool) :=
  ((laws_whole3 N ([(v1.1, v1.2.1, v1.2.2.1, ())] : List (Nat × (Nat × (Nat × Unit))))).bind fun v2 => bif (!v2) then (some true) else (bif ((feq v1.1 0) && ((feq v1.2.1 0) && ((feq v1.2.2.1 0) && true))) then (some true) else ((impl_Unit3 N (v1.1, v1.2.1, v1.2.2.1, ())).bind fun v3 => (impl_Length3 N (v1.1, v1.2.1, v1.2.2.1, ())).bind fun v4 => ((impl_Square3 N (v3.1, v3.2.1, v3.2.2.1, ())).bind fun v5 => (Ieee.double.sub v5 4607182418800017408).bind fun v6 => (math_Abs N v6).bind fun v7 => bif (flt v7 4427038433705197568) then ((Ieee.double.mul v3.1 v4).bind fun v8 => (Ieee.double.sub v8 v1.1).bind fun v9 => (math_Abs N v9).bind fun v10 => bif (flt v10 4517110426252607488) then ((Ieee.double.mul v3.2.1 v4).bind fun v11 => (Ieee.double.sub v11 v1.2.1).bind fun v12 => (math_Abs N v12).bind fun v13 => bif (flt v13 4517110426252607488) then ((Ieee.double.mul v3.2.2.1 v4).bind fun v14 => (Ieee.double.sub v14 v1.2.2.1).bind fun v15 => (math_Abs N v15).bind fun v16 => (some (flt v16 4517110426252607488))) else (some false)) else (some false)) else (some false)))))
def laws_FnUnit3 (N : Nat) (v1 : (Nat × (Nat × (Nat × Unit)))) : Option (Bool) :=
  laws_FnUnit3_g N v1
set_option maxRecDepth 100000
theorem laws_FnUnit3_t (N : Nat) (v1 : (Nat × (Nat × (Nat × Unit)))) : evF (laws_FnUnit3_E N) [] Try.f4 [.k (.pair .float (.pair .float (.pair .float .unit)))] [.bool] (v1, ()) = laws_FnUnit3 N v1 := by
  exact (show evF (laws_FnUnit3_E N) [] Try.f4 [.k (.pair .float (.pair .float (.pair .float .unit)))] [.bool] (v1, ()) = laws_FnUnit3_g N v1 from by kernel_rfl).trans (by rfl)
noncomputable def laws_FnUnit3_con (N : Nat) : Con := ⟨4, [.k (.pair .float (.pair .float (.pair .float .unit)))], [.bool], fun x => laws_FnUnit3 N x.1⟩
theorem laws_FnUnit3_s (N : Nat) : (laws_FnUnit3_con N).Sound Try.prog :=
  Con.sound_of (c := laws_FnUnit3_con N) (E := (laws_FnUnit3_E N)) (idle := []) Try.func4 (by kernel_rfl) (by kernel_rfl) ⟨(allCons (laws_whole3_s N) (allCons (impl_Unit3_s N) (allCons (impl_Length3_s N) (allCons (impl_Square3_s N) (allCons (math_Abs_s N) allNil))))), allNil⟩ allNil (fun x y h => (laws_FnUnit3_t N x.1).trans h)
end Go.Proofs.Ytlbbldhbggfoaaa.U34
