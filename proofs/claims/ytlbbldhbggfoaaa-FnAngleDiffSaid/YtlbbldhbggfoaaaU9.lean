import Derived.Test.YtlbbldhbggfoaaaProg
import Derived.Test.YtlbbldhbggfoaaaAv16
import Derived.Test.YtlbbldhbggfoaaaAv19
import Derived.Test.YtlbbldhbggfoaaaAv20
import Derived.Test.YtlbbldhbggfoaaaAv21
import Derived.Test.YtlbbldhbggfoaaaAv25
import Derived.Test.YtlbbldhbggfoaaaAv31
import Derived.KernelRfl
set_option linter.unusedVariables false
namespace Go.Proofs.Ytlbbldhbggfoaaa.U9
open Go Go.Av
/-- math.Float64bits -/
def math_Float64bits (N : Nat) (v1 : Nat) : Option Int := some ((v1 : Nat) : Int)
noncomputable def math_Float64bits_con (N : Nat) : Con := ⟨51, [.k .float], [(.int .u64)], fun x => math_Float64bits N x.1⟩
theorem math_Float64bits_s (N : Nat) : (math_Float64bits_con N).Sound Try.prog := bits_of Try.func51 (by kernel_rfl) (by kernel_rfl) (by kernel_rfl) (by kernel_rfl)
/-- math.Float64frombits -/
def math_Float64frombits (N : Nat) (v1 : Int) : Option Nat := some (v1 : Int).toNat
noncomputable def math_Float64frombits_con (N : Nat) : Con := ⟨50, [.k (.int .u64)], [.float], fun x => math_Float64frombits N x.1⟩
theorem math_Float64frombits_s (N : Nat) : (math_Float64frombits_con N).Sound Try.prog := frombits_of Try.func50 (by kernel_rfl) (by kernel_rfl) (by kernel_rfl) (by kernel_rfl)
/-- math.Abs -/
noncomputable def math_Abs_E (N : Nat) : Env := ⟨Try.prog, N, [math_Float64bits_con N, math_Float64frombits_con N], [(0, ⟨[], [], [0], [], none⟩), (1, ⟨[], [], [0], [], none⟩)], kdL [], []⟩
def math_Abs_g (N : Nat) (v1 : Nat) : Option (Nat) :=
  ((math_Float64bits N v1).bind fun v2 => (math_Float64frombits N (bits .andNot .u64 v2 9223372036854775808)).bind fun v3 => (some v3))
def math_Abs (N : Nat) (v1 : Nat) : Option (Nat) :=
  math_Abs_g N v1
set_option maxRecDepth 100000
theorem math_Abs_t (N : Nat) (v1 : Nat) : evF (math_Abs_E N) [] Try.f14 [.k .float] [.float] (v1, ()) = math_Abs N v1 := by
  exact (show evF (math_Abs_E N) [] Try.f14 [.k .float] [.float] (v1, ()) = math_Abs_g N v1 from by kernel_rfl).trans (by rfl)
noncomputable def math_Abs_con (N : Nat) : Con := ⟨14, [.k .float], [.float], fun x => math_Abs N x.1⟩
theorem math_Abs_s (N : Nat) : (math_Abs_con N).Sound Try.prog :=
  Con.sound_of (c := math_Abs_con N) (E := (math_Abs_E N)) (idle := []) Try.func14 (by kernel_rfl) (by kernel_rfl) ⟨(allCons (math_Float64bits_s N) (allCons (math_Float64frombits_s N) allNil)), allNil⟩ allNil (fun x y h => (math_Abs_t N x.1).trans h)
/-- pub-orthodrome/pub/gogeom/xy.Diff -/
noncomputable def xy_Diff_E (N : Nat) : Env := ⟨Try.prog, N, [], [(0, ⟨[], [], [0, 1], [], none⟩), (1, ⟨[], [], [0, 1], [], none⟩), (2, ⟨[], [], [0, 1], [], none⟩), (3, ⟨[], [], [0, 1, 8], [], none⟩), (5, ⟨[], [], [5], [], some N⟩), (6, ⟨[], [], [5, 16], [], none⟩), (7, ⟨[], [], [5], [], some N⟩)], kdL [], []⟩
def xy_Diff_g1 (N : Nat) (v7 : Nat) : Option (Nat) :=
  (some v7)
def xy_Diff_j1 (N : Nat) (v7 : Nat) : Option (Nat) :=
  gate N (xy_Diff_g1 N v7)
def xy_Diff_g0 (N : Nat) (c1 : Nat → Option (Nat)) (v5 : Nat) : Option (Nat) :=
  (bif (fgt v5 4614256656552045848) then ((Ieee.double.sub 4618760256179416344 v5).bind fun v6 => (c1 v6)) else (c1 v5))
def xy_Diff_j0 (N : Nat) (v5 : Nat) : Option (Nat) :=
  gate N (xy_Diff_g0 N (xy_Diff_j1 N) v5)
def xy_Diff_g (N : Nat) (v1 : Nat) (v2 : Nat) (c0 : Nat → Option (Nat)) : Option (Nat) :=
  (bif (flt v1 v2) then ((Ieee.double.sub v2 v1).bind fun v3 => (c0 v3)) else ((Ieee.double.sub v1 v2).bind fun v4 => (c0 v4)))
def xy_Diff (N : Nat) (v1 : Nat) (v2 : Nat) : Option (Nat) :=
  xy_Diff_g N v1 v2 (xy_Diff_j0 N)
set_option maxRecDepth 100000
noncomputable def xy_Diff_e1 (N : Nat) (v7 : Nat) : Option (HR [.float]) :=
  gate N (evC (xy_Diff_E N) (codeAt (bodyOf Try.f83) [1, 1, 1, 1]) ⟨[(5, .pv .float v7)], [], []⟩ (kEnd (xy_Diff_E N) [] Try.f83.results.toList [.float]))
noncomputable def xy_Diff_e0 (N : Nat) (v5 : Nat) : Option (HR [.float]) :=
  gate N (evC (xy_Diff_E N) (codeAt (bodyOf Try.f83) [1, 1, 1]) ⟨[(5, .pv .float v5)], [], []⟩ (kEnd (xy_Diff_E N) [] Try.f83.results.toList [.float]))
theorem xy_Diff_t1 (N : Nat) (v7 : Nat) : xy_Diff_e1 N v7 = xy_Diff_j1 N v7 := by
  exact (congrArg (gate N) (show evC (xy_Diff_E N) (codeAt (bodyOf Try.f83) [1, 1, 1, 1]) ⟨[(5, .pv .float v7)], [], []⟩ (kEnd (xy_Diff_E N) [] Try.f83.results.toList [.float]) = xy_Diff_g1 N v7 from by kernel_rfl)).trans (by rfl)
theorem xy_Diff_t0 (N : Nat) (v5 : Nat) : xy_Diff_e0 N v5 = xy_Diff_j0 N v5 := by
  have h1 : (xy_Diff_e1 N) = (xy_Diff_j1 N) := by funext v7; exact xy_Diff_t1 N v7
  exact (congrArg (gate N) (show evC (xy_Diff_E N) (codeAt (bodyOf Try.f83) [1, 1, 1]) ⟨[(5, .pv .float v5)], [], []⟩ (kEnd (xy_Diff_E N) [] Try.f83.results.toList [.float]) = xy_Diff_g0 N (xy_Diff_e1 N) v5 from by kernel_rfl)).trans (by rw [h1]; rfl)
theorem xy_Diff_t (N : Nat) (v1 : Nat) (v2 : Nat) : evF (xy_Diff_E N) [] Try.f83 [.k .float, .k .float] [.float] (v1, v2, ()) = xy_Diff N v1 v2 := by
  have h0 : (xy_Diff_e0 N) = (xy_Diff_j0 N) := by funext v5; exact xy_Diff_t0 N v5
  exact (show evF (xy_Diff_E N) [] Try.f83 [.k .float, .k .float] [.float] (v1, v2, ()) = xy_Diff_g N v1 v2 (xy_Diff_e0 N) from by kernel_rfl).trans (by rw [h0]; rfl)
noncomputable def xy_Diff_con (N : Nat) : Con := ⟨83, [.k .float, .k .float], [.float], fun x => xy_Diff N x.1 x.2.1⟩
theorem xy_Diff_s (N : Nat) : (xy_Diff_con N).Sound Try.prog :=
  Con.sound_of (c := xy_Diff_con N) (E := (xy_Diff_E N)) (idle := []) Try.func83 (by kernel_rfl) (by kernel_rfl) ⟨allNil, allNil⟩ allNil (fun x y h => (xy_Diff_t N x.1 x.2.1).trans h)
/-- pub-orthodrome/impl.AngleDiff -/
noncomputable def impl_AngleDiff_E (N : Nat) : Env := ⟨Try.prog, N, [xy_Diff_con N], [(0, ⟨[], [], [0, 1], [], none⟩), (1, ⟨[], [], [0, 1], [], none⟩)], kdL [], []⟩
def impl_AngleDiff_g (N : Nat) (v1 : Nat) (v2 : Nat) : Option (Nat) :=
  ((xy_Diff N v1 v2).bind fun v3 => (some v3))
def impl_AngleDiff (N : Nat) (v1 : Nat) (v2 : Nat) : Option (Nat) :=
  impl_AngleDiff_g N v1 v2
set_option maxRecDepth 100000
theorem impl_AngleDiff_t (N : Nat) (v1 : Nat) (v2 : Nat) : evF (impl_AngleDiff_E N) [] Try.f41 [.k .float, .k .float] [.float] (v1, v2, ()) = impl_AngleDiff N v1 v2 := by
  exact (show evF (impl_AngleDiff_E N) [] Try.f41 [.k .float, .k .float] [.float] (v1, v2, ()) = impl_AngleDiff_g N v1 v2 from by kernel_rfl).trans (by rfl)
noncomputable def impl_AngleDiff_con (N : Nat) : Con := ⟨41, [.k .float, .k .float], [.float], fun x => impl_AngleDiff N x.1 x.2.1⟩
theorem impl_AngleDiff_s (N : Nat) : (impl_AngleDiff_con N).Sound Try.prog :=
  Con.sound_of (c := impl_AngleDiff_con N) (E := (impl_AngleDiff_E N)) (idle := []) Try.func41 (by kernel_rfl) (by kernel_rfl) ⟨(allCons (xy_Diff_s N) allNil), allNil⟩ allNil (fun x y h => (impl_AngleDiff_t N x.1 x.2.1).trans h)
/-- math.IsNaN -/
noncomputable def math_IsNaN_E (N : Nat) : Env := ⟨Try.prog, N, [], [(0, ⟨[], [], [0], [], none⟩), (1, ⟨[], [], [0], [], none⟩)], kdL [], []⟩
def math_IsNaN_g (N : Nat) (v1 : Nat) : Option (Bool) :=
  (some (fne v1 v1))
def math_IsNaN (N : Nat) (v1 : Nat) : Option (Bool) :=
  math_IsNaN_g N v1
set_option maxRecDepth 100000
theorem math_IsNaN_t (N : Nat) (v1 : Nat) : evF (math_IsNaN_E N) [] Try.f97 [.k .float] [.bool] (v1, ()) = math_IsNaN N v1 := by
  exact (show evF (math_IsNaN_E N) [] Try.f97 [.k .float] [.bool] (v1, ()) = math_IsNaN_g N v1 from by kernel_rfl).trans (by rfl)
noncomputable def math_IsNaN_con (N : Nat) : Con := ⟨97, [.k .float], [.bool], fun x => math_IsNaN N x.1⟩
theorem math_IsNaN_s (N : Nat) : (math_IsNaN_con N).Sound Try.prog :=
  Con.sound_of (c := math_IsNaN_con N) (E := (math_IsNaN_E N)) (idle := []) Try.func97 (by kernel_rfl) (by kernel_rfl) ⟨allNil, allNil⟩ allNil (fun x y h => (math_IsNaN_t N x.1).trans h)
/-- math.IsInf -/
noncomputable def math_IsInf_E (N : Nat) : Env := ⟨Try.prog, N, [math_Abs_con N], [(0, ⟨[], [], [0, 1], [], none⟩), (1, ⟨[], [], [0, 1], [], none⟩), (2, ⟨[], [], [0, 1, 6], [], none⟩), (4, ⟨[], [], [0, 10], [], none⟩), (5, ⟨[], [], [0], [], some N⟩)], kdL [], []⟩
def math_IsInf_g0 (N : Nat) (v4 : Nat) : Option (Bool) :=
  (some (fgt v4 9218868437227405311))
def math_IsInf_j0 (N : Nat) (v4 : Nat) : Option (Bool) :=
  gate N (math_IsInf_g0 N v4)
def math_IsInf_g (N : Nat) (v1 : Nat) (v2 : Int) (c0 : Nat → Option (Bool)) : Option (Bool) :=
  (bif (v2 == 0) then ((math_Abs N v1).bind fun v3 => (c0 v3)) else (bif (decide ((v2 : Int) < 0)) then (c0 (fneg v1)) else (c0 v1)))
def math_IsInf (N : Nat) (v1 : Nat) (v2 : Int) : Option (Bool) :=
  math_IsInf_g N v1 v2 (math_IsInf_j0 N)
set_option maxRecDepth 100000
noncomputable def math_IsInf_e0 (N : Nat) (v4 : Nat) : Option (HR [.bool]) :=
  gate N (evC (math_IsInf_E N) (codeAt (bodyOf Try.f119) [1, 1]) ⟨[(0, .pv .float v4)], [], []⟩ (kEnd (math_IsInf_E N) [] Try.f119.results.toList [.bool]))
theorem math_IsInf_t0 (N : Nat) (v4 : Nat) : math_IsInf_e0 N v4 = math_IsInf_j0 N v4 := by
  exact (congrArg (gate N) (show evC (math_IsInf_E N) (codeAt (bodyOf Try.f119) [1, 1]) ⟨[(0, .pv .float v4)], [], []⟩ (kEnd (math_IsInf_E N) [] Try.f119.results.toList [.bool]) = math_IsInf_g0 N v4 from by kernel_rfl)).trans (by rfl)
theorem math_IsInf_t (N : Nat) (v1 : Nat) (v2 : Int) : evF (math_IsInf_E N) [] Try.f119 [.k .float, .k (.int .i64)] [.bool] (v1, v2, ()) = math_IsInf N v1 v2 := by
  have h0 : (math_IsInf_e0 N) = (math_IsInf_j0 N) := by funext v4; exact math_IsInf_t0 N v4
  exact (show evF (math_IsInf_E N) [] Try.f119 [.k .float, .k (.int .i64)] [.bool] (v1, v2, ()) = math_IsInf_g N v1 v2 (math_IsInf_e0 N) from by kernel_rfl).trans (by rw [h0]; rfl)
noncomputable def math_IsInf_con (N : Nat) : Con := ⟨119, [.k .float, .k (.int .i64)], [.bool], fun x => math_IsInf N x.1 x.2.1⟩
theorem math_IsInf_s (N : Nat) : (math_IsInf_con N).Sound Try.prog :=
  Con.sound_of (c := math_IsInf_con N) (E := (math_IsInf_E N)) (idle := []) Try.func119 (by kernel_rfl) (by kernel_rfl) ⟨(allCons (math_Abs_s N) allNil), allNil⟩ allNil (fun x y h => (math_IsInf_t N x.1 x.2.1).trans h)
/-- math.NaN -/
noncomputable def math_NaN_E (N : Nat) : Env := ⟨Try.prog, N, [math_Float64frombits_con N], [(0, ⟨[], [], [], [], none⟩), (1, ⟨[], [], [], [], none⟩)], kdL [], []⟩
def math_NaN_g (N : Nat) : Option (Nat) :=
  ((math_Float64frombits N 9221120237041090561).bind fun v1 => (some v1))
def math_NaN (N : Nat) : Option (Nat) :=
  math_NaN_g N
set_option maxRecDepth 100000
theorem math_NaN_t (N : Nat) : evF (math_NaN_E N) [] Try.f89 [] [.float] (()) = math_NaN N := by
  exact (show evF (math_NaN_E N) [] Try.f89 [] [.float] (()) = math_NaN_g N from by kernel_rfl).trans (by rfl)
noncomputable def math_NaN_con (N : Nat) : Con := ⟨89, [], [.float], fun x => math_NaN N⟩
theorem math_NaN_s (N : Nat) : (math_NaN_con N).Sound Try.prog :=
  Con.sound_of (c := math_NaN_con N) (E := (math_NaN_E N)) (idle := []) Try.func89 (by kernel_rfl) (by kernel_rfl) ⟨(allCons (math_Float64frombits_s N) allNil), allNil⟩ allNil (fun x y h => (math_NaN_t N).trans h)
/-- math.normalize -/
noncomputable def math_normalize_E (N : Nat) : Env := ⟨Try.prog, N, [math_Abs_con N], [(0, ⟨[], [], [0], [], none⟩), (1, ⟨[], [], [0], [], none⟩), (2, ⟨[], [], [0, 6], [], none⟩), (3, ⟨[], [], [0], [], none⟩)], kdL [], []⟩
def math_normalize_g (N : Nat) (v1 : Nat) : Option (Nat × Int) :=
  ((math_Abs N v1).bind fun v2 => (bif (flt v2 4503599627370496) then ((Ieee.double.mul v1 4841369599423283200).bind fun v3 => (some (v3, -52))) else (some (v1, 0))))
def math_normalize (N : Nat) (v1 : Nat) : Option (Nat × Int) :=
  math_normalize_g N v1
set_option maxRecDepth 100000
theorem math_normalize_t (N : Nat) (v1 : Nat) : evF (math_normalize_E N) [] Try.f120 [.k .float] [.float, (.int .i64)] (v1, ()) = math_normalize N v1 := by
  exact (show evF (math_normalize_E N) [] Try.f120 [.k .float] [.float, (.int .i64)] (v1, ()) = math_normalize_g N v1 from by kernel_rfl).trans (by rfl)
noncomputable def math_normalize_con (N : Nat) : Con := ⟨120, [.k .float], [.float, (.int .i64)], fun x => math_normalize N x.1⟩
theorem math_normalize_s (N : Nat) : (math_normalize_con N).Sound Try.prog :=
  Con.sound_of (c := math_normalize_con N) (E := (math_normalize_E N)) (idle := []) Try.func120 (by kernel_rfl) (by kernel_rfl) ⟨(allCons (math_Abs_s N) allNil), allNil⟩ allNil (fun x y h => (math_normalize_t N x.1).trans h)
/-- math.frexp -/
noncomputable def math_frexp_E (N : Nat) : Env := ⟨Try.prog, N, [math_IsInf_con N, math_IsNaN_con N, math_normalize_con N, math_Float64bits_con N, math_Float64frombits_con N], [(0, ⟨[], [], [0], [], none⟩), (1, ⟨[], [], [0], [], none⟩), (2, ⟨[], [], [0, 5], [], none⟩), (4, ⟨[], [], [0, 9], [], none⟩), (5, ⟨[], [], [0], [], none⟩), (6, ⟨[], [], [0, 3], [], none⟩), (7, ⟨[], [], [3, 4], [], none⟩), (8, ⟨[], [], [3, 4], [], none⟩), (9, ⟨[], [], [3, 4], [], none⟩), (10, ⟨[], [], [3, 4], [], none⟩)], kdL [], []⟩
def math_frexp_g (N : Nat) (v1 : Nat) : Option (Nat × Int) :=
  (bif (feq v1 0) then (some (v1, 0)) else ((math_IsInf N v1 0).bind fun v2 => bif v2 then (some (v1, 0)) else ((math_IsNaN N v1).bind fun v3 => (bif v3 then (some (v1, 0)) else ((math_normalize N v1).bind fun v4 => ((math_Float64bits N v4.1).bind fun v5 => ((math_Float64frombits N (bits .or .u64 (bits .andNot .u64 v5 9218868437227405312) 4602678819172646912)).bind fun v6 => (some (v6, (IntKind.i64.wrap (v4.2 + (IntKind.i64.wrap ((IntKind.i64.wrap ((IntKind.i64.wrap (bits .and .u64 (Int.fdiv v5 (2 ^ (min (52 : Int).toNat (IntKind.bits .u64)))) 2047)) - 1023)) + 1)))))))))))))
def math_frexp (N : Nat) (v1 : Nat) : Option (Nat × Int) :=
  math_frexp_g N v1
set_option maxRecDepth 100000
theorem math_frexp_t (N : Nat) (v1 : Nat) : evF (math_frexp_E N) [] Try.f134 [.k .float] [.float, (.int .i64)] (v1, ()) = math_frexp N v1 := by
  exact (show evF (math_frexp_E N) [] Try.f134 [.k .float] [.float, (.int .i64)] (v1, ()) = math_frexp_g N v1 from by kernel_rfl).trans (by rfl)
noncomputable def math_frexp_con (N : Nat) : Con := ⟨134, [.k .float], [.float, (.int .i64)], fun x => math_frexp N x.1⟩
theorem math_frexp_s (N : Nat) : (math_frexp_con N).Sound Try.prog :=
  Con.sound_of (c := math_frexp_con N) (E := (math_frexp_E N)) (idle := []) Try.func134 (by kernel_rfl) (by kernel_rfl) ⟨(allCons (math_IsInf_s N) (allCons (math_IsNaN_s N) (allCons (math_normalize_s N) (allCons (math_Float64bits_s N) (allCons (math_Float64frombits_s N) allNil))))), allNil⟩ allNil (fun x y h => (math_frexp_t N x.1).trans h)
/-- math.Frexp -/
noncomputable def math_Frexp_E (N : Nat) : Env := ⟨Try.prog, N, [math_frexp_con N], [(0, ⟨[], [], [0], [], none⟩), (1, ⟨[], [], [0], [], none⟩), (2, ⟨[], [], [0], [], none⟩)], kdL [], []⟩
def math_Frexp_g (N : Nat) (v1 : Nat) : Option (Nat × Int) :=
  ((math_frexp N v1).bind fun v2 => (some (v2.1, v2.2)))
def math_Frexp (N : Nat) (v1 : Nat) : Option (Nat × Int) :=
  math_Frexp_g N v1
set_option maxRecDepth 100000
theorem math_Frexp_t (N : Nat) (v1 : Nat) : evF (math_Frexp_E N) [] Try.f132 [.k .float] [.float, (.int .i64)] (v1, ()) = math_Frexp N v1 := by
  exact (show evF (math_Frexp_E N) [] Try.f132 [.k .float] [.float, (.int .i64)] (v1, ()) = math_Frexp_g N v1 from by kernel_rfl).trans (by rfl)
noncomputable def math_Frexp_con (N : Nat) : Con := ⟨132, [.k .float], [.float, (.int .i64)], fun x => math_Frexp N x.1⟩
theorem math_Frexp_s (N : Nat) : (math_Frexp_con N).Sound Try.prog :=
  Con.sound_of (c := math_Frexp_con N) (E := (math_Frexp_E N)) (idle := []) Try.func132 (by kernel_rfl) (by kernel_rfl) ⟨(allCons (math_frexp_s N) allNil), allNil⟩ allNil (fun x y h => (math_Frexp_t N x.1).trans h)
/-- math.Copysign -/
noncomputable def math_Copysign_E (N : Nat) : Env := ⟨Try.prog, N, [math_Float64bits_con N, math_Float64frombits_con N], [(0, ⟨[], [], [0, 1], [], none⟩), (1, ⟨[], [], [0, 1], [], none⟩)], kdL [], []⟩
def math_Copysign_g (N : Nat) (v1 : Nat) (v2 : Nat) : Option (Nat) :=
  ((math_Float64bits N v1).bind fun v3 => (math_Float64bits N v2).bind fun v4 => (math_Float64frombits N (bits .or .u64 (bits .andNot .u64 v3 9223372036854775808) (bits .and .u64 v4 9223372036854775808))).bind fun v5 => (some v5))
def math_Copysign (N : Nat) (v1 : Nat) (v2 : Nat) : Option (Nat) :=
  math_Copysign_g N v1 v2
set_option maxRecDepth 100000
theorem math_Copysign_t (N : Nat) (v1 : Nat) (v2 : Nat) : evF (math_Copysign_E N) [] Try.f115 [.k .float, .k .float] [.float] (v1, v2, ()) = math_Copysign N v1 v2 := by
  exact (show evF (math_Copysign_E N) [] Try.f115 [.k .float, .k .float] [.float] (v1, v2, ()) = math_Copysign_g N v1 v2 from by kernel_rfl).trans (by rfl)
noncomputable def math_Copysign_con (N : Nat) : Con := ⟨115, [.k .float, .k .float], [.float], fun x => math_Copysign N x.1 x.2.1⟩
theorem math_Copysign_s (N : Nat) : (math_Copysign_con N).Sound Try.prog :=
  Con.sound_of (c := math_Copysign_con N) (E := (math_Copysign_E N)) (idle := []) Try.func115 (by kernel_rfl) (by kernel_rfl) ⟨(allCons (math_Float64bits_s N) (allCons (math_Float64frombits_s N) allNil)), allNil⟩ allNil (fun x y h => (math_Copysign_t N x.1 x.2.1).trans h)
/-- math.Inf -/
noncomputable def math_Inf_E (N : Nat) : Env := ⟨Try.prog, N, [math_Float64frombits_con N], [(0, ⟨[], [], [0], [], none⟩), (1, ⟨[], [], [0], [], none⟩), (2, ⟨[], [], [0], [], none⟩), (3, ⟨[], [], [5], [], none⟩), (5, ⟨[], [], [3], [], some N⟩)], kdL [], []⟩
def math_Inf_g0 (N : Nat) (v2 : Int) : Option (Nat) :=
  (math_Float64frombits N v2).bind fun v3 => (some v3)
def math_Inf_j0 (N : Nat) (v2 : Int) : Option (Nat) :=
  gate N (math_Inf_g0 N v2)
def math_Inf_g (N : Nat) (v1 : Int) (c0 : Int → Option (Nat)) : Option (Nat) :=
  (bif (decide ((v1 : Int) ≥ 0)) then (c0 9218868437227405312) else (c0 18442240474082181120))
def math_Inf (N : Nat) (v1 : Int) : Option (Nat) :=
  math_Inf_g N v1 (math_Inf_j0 N)
set_option maxRecDepth 100000
noncomputable def math_Inf_e0 (N : Nat) (v2 : Int) : Option (HR [.float]) :=
  gate N (evC (math_Inf_E N) (codeAt (bodyOf Try.f121) [1, 1, 1]) ⟨[(3, .pv (.int .u64) v2)], [], []⟩ (kEnd (math_Inf_E N) [] Try.f121.results.toList [.float]))
theorem math_Inf_t0 (N : Nat) (v2 : Int) : math_Inf_e0 N v2 = math_Inf_j0 N v2 := by
  exact (congrArg (gate N) (show evC (math_Inf_E N) (codeAt (bodyOf Try.f121) [1, 1, 1]) ⟨[(3, .pv (.int .u64) v2)], [], []⟩ (kEnd (math_Inf_E N) [] Try.f121.results.toList [.float]) = math_Inf_g0 N v2 from by kernel_rfl)).trans (by rfl)
theorem math_Inf_t (N : Nat) (v1 : Int) : evF (math_Inf_E N) [] Try.f121 [.k (.int .i64)] [.float] (v1, ()) = math_Inf N v1 := by
  have h0 : (math_Inf_e0 N) = (math_Inf_j0 N) := by funext v2; exact math_Inf_t0 N v2
  exact (show evF (math_Inf_E N) [] Try.f121 [.k (.int .i64)] [.float] (v1, ()) = math_Inf_g N v1 (math_Inf_e0 N) from by kernel_rfl).trans (by rw [h0]; rfl)
noncomputable def math_Inf_con (N : Nat) : Con := ⟨121, [.k (.int .i64)], [.float], fun x => math_Inf N x.1⟩
theorem math_Inf_s (N : Nat) : (math_Inf_con N).Sound Try.prog :=
  Con.sound_of (c := math_Inf_con N) (E := (math_Inf_E N)) (idle := []) Try.func121 (by kernel_rfl) (by kernel_rfl) ⟨(allCons (math_Float64frombits_s N) allNil), allNil⟩ allNil (fun x y h => (math_Inf_t N x.1).trans h)
/-- math.ldexp -/
noncomputable def math_ldexp_E (N : Nat) : Env := ⟨Try.prog, N, [math_IsInf_con N, math_IsNaN_con N, math_normalize_con N, math_Float64bits_con N, math_Copysign_con N, math_Inf_con N, math_Float64frombits_con N], [(0, ⟨[], [], [0, 1], [], none⟩), (1, ⟨[], [], [0, 1], [], none⟩), (2, ⟨[], [], [0, 1, 8], [], none⟩), (4, ⟨[], [], [0, 1, 12], [], none⟩), (5, ⟨[], [], [0, 1], [], none⟩), (6, ⟨[], [], [0, 1, 5], [], none⟩), (7, ⟨[], [], [0, 1], [], none⟩), (8, ⟨[], [], [0, 1, 6], [], none⟩), (9, ⟨[], [], [0, 1, 6], [], none⟩), (10, ⟨[], [], [0, 1, 6, 38], [], none⟩), (11, ⟨[], [], [0, 1, 6], [], none⟩), (12, ⟨[], [], [0, 1, 6, 42], [], none⟩), (13, ⟨[], [], [44], [], none⟩), (14, ⟨[], [], [], [], none⟩), (15, ⟨[], [], [1, 6], [], none⟩), (16, ⟨[], [], [1, 6, 7], [], none⟩), (17, ⟨[], [], [1, 6, 7, 48], [], none⟩), (18, ⟨[], [], [1, 6], [], none⟩), (19, ⟨[], [], [1, 6, 7], [], some N⟩), (20, ⟨[], [], [1, 6, 7], [], none⟩), (21, ⟨[], [], [6, 7], [], none⟩)], kdL [], []⟩
def math_ldexp_g0 (N : Nat) (v6 : Int) (v10 : Int) (v11 : Nat) : Option (Nat) :=
  ((math_Float64frombits N (bits .or .u64 (bits .andNot .u64 v6 9218868437227405312) (IntKind.u64.wrap ((IntKind.u64.wrap (IntKind.i64.wrap (v10 + 1023))) * 2 ^ (min (52 : Int).toNat (IntKind.bits .u64)))))).bind fun v12 => (Ieee.double.mul v11 v12).bind fun v13 => (some v13))
def math_ldexp_j0 (N : Nat) (v6 : Int) (v10 : Int) (v11 : Nat) : Option (Nat) :=
  gate N (math_ldexp_g0 N v6 v10 v11)
def math_ldexp_g (N : Nat) (v1 : Nat) (v2 : Int) (c0 : Int → Int → Nat → Option (Nat)) : Option (Nat) :=
  (bif (feq v1 0) then (some v1) else ((math_IsInf N v1 0).bind fun v3 => bif v3 then (some v1) else ((math_IsNaN N v1).bind fun v4 => (bif v4 then (some v1) else ((math_normalize N v1).bind fun v5 => ((math_Float64bits N v5.1).bind fun v6 => (bif (decide (((IntKind.i64.wrap ((IntKind.i64.wrap (v2 + v5.2)) + (IntKind.i64.wrap ((bits .and .i64 (IntKind.i64.wrap (Int.fdiv v6 (2 ^ (min (52 : Int).toNat (IntKind.bits .u64))))) 2047) - 1023)))) : Int) < (-1075))) then ((math_Copysign N 0 v5.1).bind fun v7 => (some v7)) else (bif (decide (((IntKind.i64.wrap ((IntKind.i64.wrap (v2 + v5.2)) + (IntKind.i64.wrap ((bits .and .i64 (IntKind.i64.wrap (Int.fdiv v6 (2 ^ (min (52 : Int).toNat (IntKind.bits .u64))))) 2047) - 1023)))) : Int) > 1023)) then (bif (flt v5.1 0) then ((math_Inf N (-1)).bind fun v8 => (some v8)) else ((math_Inf N 1).bind fun v9 => (some v9))) else (bif (decide (((IntKind.i64.wrap ((IntKind.i64.wrap (v2 + v5.2)) + (IntKind.i64.wrap ((bits .and .i64 (IntKind.i64.wrap (Int.fdiv v6 (2 ^ (min (52 : Int).toNat (IntKind.bits .u64))))) 2047) - 1023)))) : Int) < (-1022))) then (c0 v6 (IntKind.i64.wrap ((IntKind.i64.wrap ((IntKind.i64.wrap (v2 + v5.2)) + (IntKind.i64.wrap ((bits .and .i64 (IntKind.i64.wrap (Int.fdiv v6 (2 ^ (min (52 : Int).toNat (IntKind.bits .u64))))) 2047) - 1023)))) + 53)) 4368491638549381120) else (c0 v6 (IntKind.i64.wrap ((IntKind.i64.wrap (v2 + v5.2)) + (IntKind.i64.wrap ((bits .and .i64 (IntKind.i64.wrap (Int.fdiv v6 (2 ^ (min (52 : Int).toNat (IntKind.bits .u64))))) 2047) - 1023)))) 4607182418800017408))))))))))
def math_ldexp (N : Nat) (v1 : Nat) (v2 : Int) : Option (Nat) :=
  math_ldexp_g N v1 v2 (math_ldexp_j0 N)
set_option maxRecDepth 100000
noncomputable def math_ldexp_e0 (N : Nat) (v6 : Int) (v10 : Int) (v11 : Nat) : Option (HR [.float]) :=
  gate N (evC (math_ldexp_E N) (codeAt (bodyOf Try.f104) [1, 1, 1, 1, 1, 1, 1, 1, 1, 1]) ⟨[(1, .pv (.int .i64) v10), (6, .pv (.int .u64) v6), (7, .pv .float v11)], [], []⟩ (kEnd (math_ldexp_E N) [] Try.f104.results.toList [.float]))
theorem math_ldexp_t0 (N : Nat) (v6 : Int) (v10 : Int) (v11 : Nat) : math_ldexp_e0 N v6 v10 v11 = math_ldexp_j0 N v6 v10 v11 := by
  exact (congrArg (gate N) (show evC (math_ldexp_E N) (codeAt (bodyOf Try.f104) [1, 1, 1, 1, 1, 1, 1, 1, 1, 1]) ⟨[(1, .pv (.int .i64) v10), (6, .pv (.int .u64) v6), (7, .pv .float v11)], [], []⟩ (kEnd (math_ldexp_E N) [] Try.f104.results.toList [.float]) = math_ldexp_g0 N v6 v10 v11 from by kernel_rfl)).trans (by rfl)
theorem math_ldexp_t (N : Nat) (v1 : Nat) (v2 : Int) : evF (math_ldexp_E N) [] Try.f104 [.k .float, .k (.int .i64)] [.float] (v1, v2, ()) = math_ldexp N v1 v2 := by
  have h0 : (math_ldexp_e0 N) = (math_ldexp_j0 N) := by funext v6 v10 v11; exact math_ldexp_t0 N v6 v10 v11
  exact (show evF (math_ldexp_E N) [] Try.f104 [.k .float, .k (.int .i64)] [.float] (v1, v2, ()) = math_ldexp_g N v1 v2 (math_ldexp_e0 N) from by kernel_rfl).trans (by rw [h0]; rfl)
noncomputable def math_ldexp_con (N : Nat) : Con := ⟨104, [.k .float, .k (.int .i64)], [.float], fun x => math_ldexp N x.1 x.2.1⟩
theorem math_ldexp_s (N : Nat) : (math_ldexp_con N).Sound Try.prog :=
  Con.sound_of (c := math_ldexp_con N) (E := (math_ldexp_E N)) (idle := []) Try.func104 (by kernel_rfl) (by kernel_rfl) ⟨(allCons (math_IsInf_s N) (allCons (math_IsNaN_s N) (allCons (math_normalize_s N) (allCons (math_Float64bits_s N) (allCons (math_Copysign_s N) (allCons (math_Inf_s N) (allCons (math_Float64frombits_s N) allNil))))))), allNil⟩ allNil (fun x y h => (math_ldexp_t N x.1 x.2.1).trans h)
/-- math.Ldexp -/
noncomputable def math_Ldexp_E (N : Nat) : Env := ⟨Try.prog, N, [math_ldexp_con N], [(0, ⟨[], [], [0, 1], [], none⟩), (1, ⟨[], [], [0, 1], [], none⟩), (2, ⟨[], [], [0, 1], [], none⟩)], kdL [], []⟩
def math_Ldexp_g (N : Nat) (v1 : Nat) (v2 : Int) : Option (Nat) :=
  ((math_ldexp N v1 v2).bind fun v3 => (some v3))
def math_Ldexp (N : Nat) (v1 : Nat) (v2 : Int) : Option (Nat) :=
  math_Ldexp_g N v1 v2
set_option maxRecDepth 100000
theorem math_Ldexp_t (N : Nat) (v1 : Nat) (v2 : Int) : evF (math_Ldexp_E N) [] Try.f72 [.k .float, .k (.int .i64)] [.float] (v1, v2, ()) = math_Ldexp N v1 v2 := by
  exact (show evF (math_Ldexp_E N) [] Try.f72 [.k .float, .k (.int .i64)] [.float] (v1, v2, ()) = math_Ldexp_g N v1 v2 from by kernel_rfl).trans (by rfl)
noncomputable def math_Ldexp_con (N : Nat) : Con := ⟨72, [.k .float, .k (.int .i64)], [.float], fun x => math_Ldexp N x.1 x.2.1⟩
theorem math_Ldexp_s (N : Nat) : (math_Ldexp_con N).Sound Try.prog :=
  Con.sound_of (c := math_Ldexp_con N) (E := (math_Ldexp_E N)) (idle := []) Try.func72 (by kernel_rfl) (by kernel_rfl) ⟨(allCons (math_ldexp_s N) allNil), allNil⟩ allNil (fun x y h => (math_Ldexp_t N x.1 x.2.1).trans h)
/-- math.mod -/
noncomputable def math_mod_E (N : Nat) : Env := ⟨Try.prog, N, [math_IsInf_con N, math_IsNaN_con N, math_NaN_con N, math_Abs_con N, math_Frexp_con N, math_Ldexp_con N], [(0, ⟨[], [], [0, 1], [], none⟩), (1, ⟨[], [], [0, 1], [], none⟩), (2, ⟨[], [], [0, 1, 23], [], some N⟩), (3, ⟨[], [], [0, 1], [], none⟩), (4, ⟨[], [], [0, 1], [], none⟩), (5, ⟨[], [], [0, 1, 5, 6], [], none⟩), (6, ⟨[], [], [0, 1, 5, 6, 7], [], none⟩), (7, ⟨[], [], [0, 1, 5, 6, 7, 34], [], none⟩), (8, ⟨[], [], [0, 1, 5, 6, 7], [], some N⟩), (9, ⟨[], [], [0, 1, 5, 6, 7], [], none⟩), (10, ⟨[], [], [0, 1, 5, 6, 7, 8, 9], [], none⟩), (11, ⟨[], [], [0, 1, 5, 6, 7, 9, 47], [], none⟩), (12, ⟨[], [], [0, 1, 5, 6, 7, 9], [], some N⟩), (13, ⟨[], [], [0, 7], [], none⟩), (14, ⟨[], [], [7, 58], [], none⟩), (15, ⟨[], [], [7], [], some N⟩)], kdL [], []⟩
def math_mod_g0 (N : Nat) (v1 : Nat) (v2 : Nat) : Option (Nat) :=
  (math_NaN N).bind fun v6 => (some v6)
def math_mod_j0 (N : Nat) (v1 : Nat) (v2 : Nat) : Option (Nat) :=
  gate N (math_mod_g0 N v1 v2)
def math_mod_g3 (N : Nat) (v1 : Nat) (v8 : Nat) (v9 : (Nat × Int)) (v15 : Nat) (r2 : Nat → Option (Nat)) (v17 : Int) : Option (Nat) :=
  (math_Ldexp N v8 (IntKind.i64.wrap (v17 - v9.2))).bind fun v18 => (Ieee.double.sub v15 v18).bind fun v19 => gate N ((r2 v19))
def math_mod_j3 (N : Nat) (r2 : Nat → Option (Nat)) (v1 : Nat) (v8 : Nat) (v9 : (Nat × Int)) (v15 : Nat) (v17 : Int) : Option (Nat) :=
  gate N (math_mod_g3 N v1 v8 v9 v15 r2 v17)
def math_mod_g4 (N : Nat) (v20 : Nat) : Option (Nat) :=
  (some v20)
def math_mod_j4 (N : Nat) (v20 : Nat) : Option (Nat) :=
  gate N (math_mod_g4 N v20)
def math_mod_g2 (N : Nat) (v1 : Nat) (v8 : Nat) (v9 : (Nat × Int)) (c3 : Nat → Int → Option (Nat)) (c4 : Nat → Option (Nat)) (r2 : Nat → Option (Nat)) (v15 : Nat) : Option (Nat) :=
  (bif (fge v15 v8) then ((math_Frexp N v15).bind fun v16 => (bif (flt v16.1 v9.1) then (c3 v15 (IntKind.i64.wrap (v16.2 - 1))) else (c3 v15 v16.2))) else (bif (flt v1 0) then (c4 (fneg v15)) else (c4 v15)))
def math_mod_l2 (N : Nat) : Nat → Nat → Nat → (Nat × Int) → Nat → Option (Nat)
  | 0, _, _, _, _ => none
  | n + 1, v1, v8, v9, v15 => math_mod_g2 N v1 v8 v9 (math_mod_j3 N (math_mod_l2 N n v1 v8 v9) v1 v8 v9) (math_mod_j4 N) (math_mod_l2 N n v1 v8 v9) v15
def math_mod_g1 (N : Nat) (v1 : Nat) (v8 : Nat) (v9 : (Nat × Int)) (c2 : Nat → Nat → (Nat × Int) → Nat → Option (Nat)) (v10 : Nat) : Option (Nat) :=
  gate N ((c2 v1 v8 v9 v10))
def math_mod_j1 (N : Nat) (v1 : Nat) (v8 : Nat) (v9 : (Nat × Int)) (v10 : Nat) : Option (Nat) :=
  gate N (math_mod_g1 N v1 v8 v9 (math_mod_l2 N N) v10)
def math_mod_g (N : Nat) (v1 : Nat) (v2 : Nat) (c0 : Nat → Nat → Option (Nat)) (c1 : Nat → Nat → (Nat × Int) → Nat → Option (Nat)) : Option (Nat) :=
  (bif (feq v2 0) then (c0 v1 v2) else ((math_IsInf N v1 0).bind fun v3 => bif v3 then (c0 v1 v2) else ((math_IsNaN N v1).bind fun v4 => bif v4 then (c0 v1 v2) else ((math_IsNaN N v2).bind fun v5 => (gate N (bif v5 then ((math_NaN N).bind fun v7 => (some v7)) else ((math_Abs N v2).bind fun v8 => ((math_Frexp N v8).bind fun v9 => (bif (flt v1 0) then (c1 v1 v8 v9 (fneg v1)) else (c1 v1 v8 v9 v1))))))))))
def math_mod (N : Nat) (v1 : Nat) (v2 : Nat) : Option (Nat) :=
  math_mod_g N v1 v2 (math_mod_j0 N) (math_mod_j1 N)
set_option maxRecDepth 100000
noncomputable def math_mod_e0 (N : Nat) (v1 : Nat) (v2 : Nat) : Option (HR [.float]) :=
  gate N (evC (math_mod_E N) (codeAt (bodyOf Try.f131) [1, 0, 1]) ⟨[(0, .pv .float v1), (1, .pv .float v2), (23, .pv .bool true)], [], []⟩ (kSeq (advOf (math_mod_E N) (codeAt (bodyOf Try.f131) [1, 1])) (evC (math_mod_E N) (codeAt (bodyOf Try.f131) [1, 1])) (kEnd (math_mod_E N) [] Try.f131.results.toList [.float])))
noncomputable def math_mod_e3 (N : Nat) (m2 : Nat) (v1 : Nat) (v8 : Nat) (v9 : (Nat × Int)) (v15 : Nat) (v17 : Int) : Option (HR [.float]) :=
  gate N (evC (math_mod_E N) (codeAt (bodyOf Try.f131) [1, 1, 1, 1, 1, 1, 0, 0, 0, 1, 0, 1, 1]) ⟨[(0, .pv .float v1), (1, .pv .float v8), (5, .pv .float v9.1), (6, .pv (.int .i64) v9.2), (7, .pv .float v15), (9, .pv (.int .i64) v17)], [], []⟩ (kBlock 1 (kSeq (advOf (math_mod_E N) (codeAt (bodyOf Try.f131) [1, 1, 1, 1, 1, 1, 0, 0, 0])) (fun st K => loopN (advOf (math_mod_E N) (codeAt (bodyOf Try.f131) [1, 1, 1, 1, 1, 1, 0, 0, 0])) (evC (math_mod_E N) (codeAt (bodyOf Try.f131) [1, 1, 1, 1, 1, 1, 0, 0, 0])) m2 st K) (kBlock 0 (kSeq (advOf (math_mod_E N) (codeAt (bodyOf Try.f131) [1, 1, 1, 1, 1, 1, 1])) (evC (math_mod_E N) (codeAt (bodyOf Try.f131) [1, 1, 1, 1, 1, 1, 1])) (kEnd (math_mod_E N) [] Try.f131.results.toList [.float]))))))
noncomputable def math_mod_e4 (N : Nat) (v20 : Nat) : Option (HR [.float]) :=
  gate N (evC (math_mod_E N) (codeAt (bodyOf Try.f131) [1, 1, 1, 1, 1, 1, 1, 1]) ⟨[(7, .pv .float v20)], [], []⟩ (kEnd (math_mod_E N) [] Try.f131.results.toList [.float]))
noncomputable def math_mod_e2 (N : Nat) (n : Nat) (v1 : Nat) (v8 : Nat) (v9 : (Nat × Int)) (v15 : Nat) : Option (HR [.float]) :=
  loopN (advOf (math_mod_E N) (codeAt (bodyOf Try.f131) [1, 1, 1, 1, 1, 1, 0, 0, 0])) (evC (math_mod_E N) (codeAt (bodyOf Try.f131) [1, 1, 1, 1, 1, 1, 0, 0, 0])) n ⟨[(0, .pv .float v1), (1, .pv .float v8), (5, .pv .float v9.1), (6, .pv (.int .i64) v9.2), (7, .pv .float v15)], [], []⟩ (kBlock 0 (kSeq (advOf (math_mod_E N) (codeAt (bodyOf Try.f131) [1, 1, 1, 1, 1, 1, 1])) (evC (math_mod_E N) (codeAt (bodyOf Try.f131) [1, 1, 1, 1, 1, 1, 1])) (kEnd (math_mod_E N) [] Try.f131.results.toList [.float])))
noncomputable def math_mod_e1 (N : Nat) (v1 : Nat) (v8 : Nat) (v9 : (Nat × Int)) (v10 : Nat) : Option (HR [.float]) :=
  gate N (evC (math_mod_E N) (codeAt (bodyOf Try.f131) [1, 1, 1, 1, 1, 1]) ⟨[(0, .pv .float v1), (1, .pv .float v8), (5, .pv .float v9.1), (6, .pv (.int .i64) v9.2), (7, .pv .float v10)], [], []⟩ (kEnd (math_mod_E N) [] Try.f131.results.toList [.float]))
theorem math_mod_t0 (N : Nat) (v1 : Nat) (v2 : Nat) : math_mod_e0 N v1 v2 = math_mod_j0 N v1 v2 := by
  exact (congrArg (gate N) (show evC (math_mod_E N) (codeAt (bodyOf Try.f131) [1, 0, 1]) ⟨[(0, .pv .float v1), (1, .pv .float v2), (23, .pv .bool true)], [], []⟩ (kSeq (advOf (math_mod_E N) (codeAt (bodyOf Try.f131) [1, 1])) (evC (math_mod_E N) (codeAt (bodyOf Try.f131) [1, 1])) (kEnd (math_mod_E N) [] Try.f131.results.toList [.float])) = math_mod_g0 N v1 v2 from by kernel_rfl)).trans (by rfl)
theorem math_mod_t3 (N : Nat) (m2 : Nat) (v1 : Nat) (v8 : Nat) (v9 : (Nat × Int)) (v15 : Nat) (v17 : Int) : math_mod_e3 N m2 v1 v8 v9 v15 v17 = math_mod_j3 N (math_mod_e2 N m2 v1 v8 v9) v1 v8 v9 v15 v17 := by
  exact (congrArg (gate N) (show evC (math_mod_E N) (codeAt (bodyOf Try.f131) [1, 1, 1, 1, 1, 1, 0, 0, 0, 1, 0, 1, 1]) ⟨[(0, .pv .float v1), (1, .pv .float v8), (5, .pv .float v9.1), (6, .pv (.int .i64) v9.2), (7, .pv .float v15), (9, .pv (.int .i64) v17)], [], []⟩ (kBlock 1 (kSeq (advOf (math_mod_E N) (codeAt (bodyOf Try.f131) [1, 1, 1, 1, 1, 1, 0, 0, 0])) (fun st K => loopN (advOf (math_mod_E N) (codeAt (bodyOf Try.f131) [1, 1, 1, 1, 1, 1, 0, 0, 0])) (evC (math_mod_E N) (codeAt (bodyOf Try.f131) [1, 1, 1, 1, 1, 1, 0, 0, 0])) m2 st K) (kBlock 0 (kSeq (advOf (math_mod_E N) (codeAt (bodyOf Try.f131) [1, 1, 1, 1, 1, 1, 1])) (evC (math_mod_E N) (codeAt (bodyOf Try.f131) [1, 1, 1, 1, 1, 1, 1])) (kEnd (math_mod_E N) [] Try.f131.results.toList [.float]))))) = math_mod_g3 N v1 v8 v9 v15 (math_mod_e2 N m2 v1 v8 v9) v17 from by kernel_rfl)).trans (by rfl)
theorem math_mod_t4 (N : Nat) (v20 : Nat) : math_mod_e4 N v20 = math_mod_j4 N v20 := by
  exact (congrArg (gate N) (show evC (math_mod_E N) (codeAt (bodyOf Try.f131) [1, 1, 1, 1, 1, 1, 1, 1]) ⟨[(7, .pv .float v20)], [], []⟩ (kEnd (math_mod_E N) [] Try.f131.results.toList [.float]) = math_mod_g4 N v20 from by kernel_rfl)).trans (by rfl)
theorem math_mod_t2 (N : Nat) : ∀ (n : Nat) (v1 : Nat) (v8 : Nat) (v9 : (Nat × Int)) (v15 : Nat), math_mod_e2 N n v1 v8 v9 v15 = math_mod_l2 N n v1 v8 v9 v15
  | 0, _, _, _, _ => rfl
  | n + 1, v1, v8, v9, v15 => by
    have h3 : (math_mod_e3 N n v1 v8 v9) = (math_mod_j3 N (math_mod_e2 N n v1 v8 v9) v1 v8 v9) := by funext v15 v17; exact math_mod_t3 N n v1 v8 v9 v15 v17
    have h4 : (math_mod_e4 N) = (math_mod_j4 N) := by funext v20; exact math_mod_t4 N v20
    have h : math_mod_e2 N n v1 v8 v9 = math_mod_l2 N n v1 v8 v9 := by funext v15; exact math_mod_t2 N n v1 v8 v9 v15
    exact (show math_mod_e2 N (n + 1) v1 v8 v9 v15 = math_mod_g2 N v1 v8 v9 (math_mod_e3 N n v1 v8 v9) (math_mod_e4 N) (math_mod_e2 N n v1 v8 v9) v15 from by kernel_rfl).trans (by rw [h3, h4, h]; rfl)
theorem math_mod_t1 (N : Nat) (v1 : Nat) (v8 : Nat) (v9 : (Nat × Int)) (v10 : Nat) : math_mod_e1 N v1 v8 v9 v10 = math_mod_j1 N v1 v8 v9 v10 := by
  have h2 : (math_mod_e2 N N) = (math_mod_l2 N N) := by funext v1 v8 v9 v15; exact math_mod_t2 N N v1 v8 v9 v15
  exact (congrArg (gate N) (show evC (math_mod_E N) (codeAt (bodyOf Try.f131) [1, 1, 1, 1, 1, 1]) ⟨[(0, .pv .float v1), (1, .pv .float v8), (5, .pv .float v9.1), (6, .pv (.int .i64) v9.2), (7, .pv .float v10)], [], []⟩ (kEnd (math_mod_E N) [] Try.f131.results.toList [.float]) = math_mod_g1 N v1 v8 v9 (math_mod_e2 N N) v10 from by kernel_rfl)).trans (by rw [h2]; rfl)
theorem math_mod_t (N : Nat) (v1 : Nat) (v2 : Nat) : evF (math_mod_E N) [] Try.f131 [.k .float, .k .float] [.float] (v1, v2, ()) = math_mod N v1 v2 := by
  have h0 : (math_mod_e0 N) = (math_mod_j0 N) := by funext v1 v2; exact math_mod_t0 N v1 v2
  have h1 : (math_mod_e1 N) = (math_mod_j1 N) := by funext v1 v8 v9 v10; exact math_mod_t1 N v1 v8 v9 v10
  exact (show evF (math_mod_E N) [] Try.f131 [.k .float, .k .float] [.float] (v1, v2, ()) = math_mod_g N v1 v2 (math_mod_e0 N) (math_mod_e1 N) from by kernel_rfl).trans (by rw [h0, h1]; rfl)
noncomputable def math_mod_con (N : Nat) : Con := ⟨131, [.k .float, .k .float], [.float], fun x => math_mod N x.1 x.2.1⟩
theorem math_mod_s (N : Nat) : (math_mod_con N).Sound Try.prog :=
  Con.sound_of (c := math_mod_con N) (E := (math_mod_E N)) (idle := []) Try.func131 (by kernel_rfl) (by kernel_rfl) ⟨(allCons (math_IsInf_s N) (allCons (math_IsNaN_s N) (allCons (math_NaN_s N) (allCons (math_Abs_s N) (allCons (math_Frexp_s N) (allCons (math_Ldexp_s N) allNil)))))), allNil⟩ allNil (fun x y h => (math_mod_t N x.1 x.2.1).trans h)
/-- math.Mod -/
noncomputable def math_Mod_E (N : Nat) : Env := ⟨Try.prog, N, [math_mod_con N], [(0, ⟨[], [], [0, 1], [], none⟩), (1, ⟨[], [], [0, 1], [], none⟩), (2, ⟨[], [], [0, 1], [], none⟩)], kdL [], []⟩
def math_Mod_g (N : Nat) (v1 : Nat) (v2 : Nat) : Option (Nat) :=
  ((math_mod N v1 v2).bind fun v3 => (some v3))
def math_Mod (N : Nat) (v1 : Nat) (v2 : Nat) : Option (Nat) :=
  math_Mod_g N v1 v2
set_option maxRecDepth 100000
theorem math_Mod_t (N : Nat) (v1 : Nat) (v2 : Nat) : evF (math_Mod_E N) [] Try.f125 [.k .float, .k .float] [.float] (v1, v2, ()) = math_Mod N v1 v2 := by
  exact (show evF (math_Mod_E N) [] Try.f125 [.k .float, .k .float] [.float] (v1, v2, ()) = math_Mod_g N v1 v2 from by kernel_rfl).trans (by rfl)
noncomputable def math_Mod_con (N : Nat) : Con := ⟨125, [.k .float, .k .float], [.float], fun x => math_Mod N x.1 x.2.1⟩
theorem math_Mod_s (N : Nat) : (math_Mod_con N).Sound Try.prog :=
  Con.sound_of (c := math_Mod_con N) (E := (math_Mod_E N)) (idle := []) Try.func125 (by kernel_rfl) (by kernel_rfl) ⟨(allCons (math_mod_s N) allNil), allNil⟩ allNil (fun x y h => (math_Mod_t N x.1 x.2.1).trans h)
/-- math.remainder -/
noncomputable def math_remainder_E (N : Nat) : Env := ⟨Try.prog, N, [math_IsNaN_con N, math_IsInf_con N, math_NaN_con N, math_Mod_con N], [(0, ⟨[], [], [0, 1], [], none⟩), (1, ⟨[], [], [0, 1], [], none⟩), (2, ⟨[], [], [0, 1, 8], [], some N⟩), (4, ⟨[], [], [0, 1, 24], [], none⟩), (5, ⟨[], [], [0, 1], [], none⟩), (6, ⟨[], [], [0, 1, 5], [], none⟩), (7, ⟨[], [], [0, 1, 5, 29], [], none⟩), (8, ⟨[], [], [0, 1], [], none⟩), (9, ⟨[], [], [0, 1, 5], [], some N⟩), (10, ⟨[], [], [0, 1, 5, 33], [], none⟩), (11, ⟨[], [], [0, 1, 5], [], some N⟩), (12, ⟨[], [], [0, 1, 5, 38], [], none⟩), (13, ⟨[], [], [39], [], none⟩), (14, ⟨[], [], [6], [], none⟩), (15, ⟨[], [], [], [], none⟩), (16, ⟨[], [], [0, 1, 5], [], none⟩), (17, ⟨[], [], [0, 1, 5, 43], [], none⟩), (18, ⟨[], [], [0, 1, 5], [], some N⟩), (19, ⟨[], [], [0, 1, 5, 50], [], none⟩), (20, ⟨[], [], [0, 1, 5, 55], [], none⟩), (21, ⟨[], [], [0, 1, 5], [], none⟩), (22, ⟨[], [], [0, 1, 5, 63], [], none⟩), (24, ⟨[], [], [0, 1, 5, 7], [], none⟩), (25, ⟨[], [], [0, 1, 5, 7, 71], [], none⟩), (26, ⟨[], [], [0, 1, 5, 7], [], none⟩), (27, ⟨[], [], [0, 1, 5, 77], [], none⟩), (28, ⟨[], [], [0, 5], [], some N⟩), (29, ⟨[], [], [0, 81], [], none⟩), (30, ⟨[], [], [0], [], some N⟩)], kdL [], []⟩
def math_remainder_g0 (N : Nat) (v1 : Nat) (v2 : Nat) : Option (Nat) :=
  (math_NaN N).bind fun v6 => (some v6)
def math_remainder_j0 (N : Nat) (v1 : Nat) (v2 : Nat) : Option (Nat) :=
  gate N (math_remainder_g0 N v1 v2)
def math_remainder_g5 (N : Nat) (v23 : Nat) : Option (Nat) :=
  (some v23)
def math_remainder_j5 (N : Nat) (v23 : Nat) : Option (Nat) :=
  gate N (math_remainder_g5 N v23)
def math_remainder_g4 (N : Nat) (v10 : Bool) (c5 : Nat → Option (Nat)) (v22 : Nat) : Option (Nat) :=
  (bif v10 then (c5 (fneg v22)) else (c5 v22))
def math_remainder_j4 (N : Nat) (v10 : Bool) (v22 : Nat) : Option (Nat) :=
  gate N (math_remainder_g4 N v10 (math_remainder_j5 N) v22)
def math_remainder_g3 (N : Nat) (v11 : Nat) (v10 : Bool) (c4 : Bool → Nat → Option (Nat)) (v14 : Nat) : Option (Nat) :=
  (bif (flt v11 9007199254740992) then ((Ieee.double.add v14 v14).bind fun v15 => (bif (fgt v15 v11) then ((Ieee.double.sub v14 v11).bind fun v16 => ((Ieee.double.add v16 v16).bind fun v17 => (bif (fge v17 v11) then ((Ieee.double.sub v16 v11).bind fun v18 => (c4 v10 v18)) else (c4 v10 v16)))) else (c4 v10 v14))) else ((Ieee.double.mul 4602678819172646912 v11).bind fun v19 => (bif (fgt v14 v19) then ((Ieee.double.sub v14 v11).bind fun v20 => (bif (fge v20 v19) then ((Ieee.double.sub v20 v11).bind fun v21 => (c4 v10 v21)) else (c4 v10 v20))) else (c4 v10 v14))))
def math_remainder_j3 (N : Nat) (v11 : Nat) (v10 : Bool) (v14 : Nat) : Option (Nat) :=
  gate N (math_remainder_g3 N v11 v10 (math_remainder_j4 N) v14)
def math_remainder_g2 (N : Nat) (v9 : Nat) (v10 : Bool) (c3 : Nat → Bool → Nat → Option (Nat)) (v11 : Nat) : Option (Nat) :=
  (bif (feq v9 v11) then (bif v10 then (some (fneg 0)) else (some 0)) else (bif (fle v11 9214364837600034815) then ((Ieee.double.add v11 v11).bind fun v12 => (math_Mod N v9 v12).bind fun v13 => (c3 v11 v10 v13)) else (c3 v11 v10 v9)))
def math_remainder_j2 (N : Nat) (v9 : Nat) (v10 : Bool) (v11 : Nat) : Option (Nat) :=
  gate N (math_remainder_g2 N v9 v10 (math_remainder_j3 N) v11)
def math_remainder_g1 (N : Nat) (v2 : Nat) (c2 : Nat → Bool → Nat → Option (Nat)) (v9 : Nat) (v10 : Bool) : Option (Nat) :=
  (bif (flt v2 0) then (c2 v9 v10 (fneg v2)) else (c2 v9 v10 v2))
def math_remainder_j1 (N : Nat) (v2 : Nat) (v9 : Nat) (v10 : Bool) : Option (Nat) :=
  gate N (math_remainder_g1 N v2 (math_remainder_j2 N) v9 v10)
def math_remainder_g (N : Nat) (v1 : Nat) (v2 : Nat) (c0 : Nat → Nat → Option (Nat)) (c1 : Nat → Nat → Bool → Option (Nat)) : Option (Nat) :=
  ((math_IsNaN N v1).bind fun v3 => bif v3 then (c0 v1 v2) else ((math_IsNaN N v2).bind fun v4 => bif v4 then (c0 v1 v2) else ((math_IsInf N v1 0).bind fun v5 => bif v5 then (c0 v1 v2) else (gate N (bif (feq v2 0) then ((math_NaN N).bind fun v7 => (some v7)) else ((math_IsInf N v2 0).bind fun v8 => (bif v8 then (some v1) else (bif (flt v1 0) then (c1 v2 (fneg v1) true) else (c1 v2 v1 false)))))))))
def math_remainder (N : Nat) (v1 : Nat) (v2 : Nat) : Option (Nat) :=
  math_remainder_g N v1 v2 (math_remainder_j0 N) (math_remainder_j1 N)
set_option maxRecDepth 100000
noncomputable def math_remainder_e0 (N : Nat) (v1 : Nat) (v2 : Nat) : Option (HR [.float]) :=
  gate N (evC (math_remainder_E N) (codeAt (bodyOf Try.f111) [1, 0, 0, 1]) ⟨[(0, .pv .float v1), (1, .pv .float v2), (8, .pv .bool true)], [], []⟩ (kBlock 0 (kSeq (advOf (math_remainder_E N) (codeAt (bodyOf Try.f111) [1, 1])) (evC (math_remainder_E N) (codeAt (bodyOf Try.f111) [1, 1])) (kEnd (math_remainder_E N) [] Try.f111.results.toList [.float]))))
noncomputable def math_remainder_e5 (N : Nat) (v23 : Nat) : Option (HR [.float]) :=
  gate N (evC (math_remainder_E N) (codeAt (bodyOf Try.f111) [1, 1, 1, 1, 1, 1, 1, 1, 1]) ⟨[(0, .pv .float v23)], [], []⟩ (kEnd (math_remainder_E N) [] Try.f111.results.toList [.float]))
noncomputable def math_remainder_e4 (N : Nat) (v10 : Bool) (v22 : Nat) : Option (HR [.float]) :=
  gate N (evC (math_remainder_E N) (codeAt (bodyOf Try.f111) [1, 1, 1, 1, 1, 1, 1, 1]) ⟨[(0, .pv .float v22), (5, .pv .bool v10)], [], []⟩ (kEnd (math_remainder_E N) [] Try.f111.results.toList [.float]))
noncomputable def math_remainder_e3 (N : Nat) (v11 : Nat) (v10 : Bool) (v14 : Nat) : Option (HR [.float]) :=
  gate N (evC (math_remainder_E N) (codeAt (bodyOf Try.f111) [1, 1, 1, 1, 1, 1, 1]) ⟨[(0, .pv .float v14), (1, .pv .float v11), (5, .pv .bool v10)], [], []⟩ (kEnd (math_remainder_E N) [] Try.f111.results.toList [.float]))
noncomputable def math_remainder_e2 (N : Nat) (v9 : Nat) (v10 : Bool) (v11 : Nat) : Option (HR [.float]) :=
  gate N (evC (math_remainder_E N) (codeAt (bodyOf Try.f111) [1, 1, 1, 1, 1]) ⟨[(0, .pv .float v9), (1, .pv .float v11), (5, .pv .bool v10)], [], []⟩ (kEnd (math_remainder_E N) [] Try.f111.results.toList [.float]))
noncomputable def math_remainder_e1 (N : Nat) (v2 : Nat) (v9 : Nat) (v10 : Bool) : Option (HR [.float]) :=
  gate N (evC (math_remainder_E N) (codeAt (bodyOf Try.f111) [1, 1, 1, 1]) ⟨[(0, .pv .float v9), (1, .pv .float v2), (5, .pv .bool v10)], [], []⟩ (kEnd (math_remainder_E N) [] Try.f111.results.toList [.float]))
theorem math_remainder_t0 (N : Nat) (v1 : Nat) (v2 : Nat) : math_remainder_e0 N v1 v2 = math_remainder_j0 N v1 v2 := by
  exact (congrArg (gate N) (show evC (math_remainder_E N) (codeAt (bodyOf Try.f111) [1, 0, 0, 1]) ⟨[(0, .pv .float v1), (1, .pv .float v2), (8, .pv .bool true)], [], []⟩ (kBlock 0 (kSeq (advOf (math_remainder_E N) (codeAt (bodyOf Try.f111) [1, 1])) (evC (math_remainder_E N) (codeAt (bodyOf Try.f111) [1, 1])) (kEnd (math_remainder_E N) [] Try.f111.results.toList [.float]))) = math_remainder_g0 N v1 v2 from by kernel_rfl)).trans (by rfl)
theorem math_remainder_t5 (N : Nat) (v23 : Nat) : math_remainder_e5 N v23 = math_remainder_j5 N v23 := by
  exact (congrArg (gate N) (show evC (math_remainder_E N) (codeAt (bodyOf Try.f111) [1, 1, 1, 1, 1, 1, 1, 1, 1]) ⟨[(0, .pv .float v23)], [], []⟩ (kEnd (math_remainder_E N) [] Try.f111.results.toList [.float]) = math_remainder_g5 N v23 from by kernel_rfl)).trans (by rfl)
theorem math_remainder_t4 (N : Nat) (v10 : Bool) (v22 : Nat) : math_remainder_e4 N v10 v22 = math_remainder_j4 N v10 v22 := by
  have h5 : (math_remainder_e5 N) = (math_remainder_j5 N) := by funext v23; exact math_remainder_t5 N v23
  exact (congrArg (gate N) (show evC (math_remainder_E N) (codeAt (bodyOf Try.f111) [1, 1, 1, 1, 1, 1, 1, 1]) ⟨[(0, .pv .float v22), (5, .pv .bool v10)], [], []⟩ (kEnd (math_remainder_E N) [] Try.f111.results.toList [.float]) = math_remainder_g4 N v10 (math_remainder_e5 N) v22 from by kernel_rfl)).trans (by rw [h5]; rfl)
theorem math_remainder_t3 (N : Nat) (v11 : Nat) (v10 : Bool) (v14 : Nat) : math_remainder_e3 N v11 v10 v14 = math_remainder_j3 N v11 v10 v14 := by
  have h4 : (math_remainder_e4 N) = (math_remainder_j4 N) := by funext v10 v22; exact math_remainder_t4 N v10 v22
  exact (congrArg (gate N) (show evC (math_remainder_E N) (codeAt (bodyOf Try.f111) [1, 1, 1, 1, 1, 1, 1]) ⟨[(0, .pv .float v14), (1, .pv .float v11), (5, .pv .bool v10)], [], []⟩ (kEnd (math_remainder_E N) [] Try.f111.results.toList [.float]) = math_remainder_g3 N v11 v10 (math_remainder_e4 N) v14 from by kernel_rfl)).trans (by rw [h4]; rfl)
theorem math_remainder_t2 (N : Nat) (v9 : Nat) (v10 : Bool) (v11 : Nat) : math_remainder_e2 N v9 v10 v11 = math_remainder_j2 N v9 v10 v11 := by
  have h3 : (math_remainder_e3 N) = (math_remainder_j3 N) := by funext v11 v10 v14; exact math_remainder_t3 N v11 v10 v14
  exact (congrArg (gate N) (show evC (math_remainder_E N) (codeAt (bodyOf Try.f111) [1, 1, 1, 1, 1]) ⟨[(0, .pv .float v9), (1, .pv .float v11), (5, .pv .bool v10)], [], []⟩ (kEnd (math_remainder_E N) [] Try.f111.results.toList [.float]) = math_remainder_g2 N v9 v10 (math_remainder_e3 N) v11 from by kernel_rfl)).trans (by rw [h3]; rfl)
theorem math_remainder_t1 (N : Nat) (v2 : Nat) (v9 : Nat) (v10 : Bool) : math_remainder_e1 N v2 v9 v10 = math_remainder_j1 N v2 v9 v10 := by
  have h2 : (math_remainder_e2 N) = (math_remainder_j2 N) := by funext v9 v10 v11; exact math_remainder_t2 N v9 v10 v11
  exact (congrArg (gate N) (show evC (math_remainder_E N) (codeAt (bodyOf Try.f111) [1, 1, 1, 1]) ⟨[(0, .pv .float v9), (1, .pv .float v2), (5, .pv .bool v10)], [], []⟩ (kEnd (math_remainder_E N) [] Try.f111.results.toList [.float]) = math_remainder_g1 N v2 (math_remainder_e2 N) v9 v10 from by kernel_rfl)).trans (by rw [h2]; rfl)
theorem math_remainder_t (N : Nat) (v1 : Nat) (v2 : Nat) : evF (math_remainder_E N) [] Try.f111 [.k .float, .k .float] [.float] (v1, v2, ()) = math_remainder N v1 v2 := by
  have h0 : (math_remainder_e0 N) = (math_remainder_j0 N) := by funext v1 v2; exact math_remainder_t0 N v1 v2
  have h1 : (math_remainder_e1 N) = (math_remainder_j1 N) := by funext v2 v9 v10; exact math_remainder_t1 N v2 v9 v10
  exact (show evF (math_remainder_E N) [] Try.f111 [.k .float, .k .float] [.float] (v1, v2, ()) = math_remainder_g N v1 v2 (math_remainder_e0 N) (math_remainder_e1 N) from by kernel_rfl).trans (by rw [h0, h1]; rfl)
noncomputable def math_remainder_con (N : Nat) : Con := ⟨111, [.k .float, .k .float], [.float], fun x => math_remainder N x.1 x.2.1⟩
theorem math_remainder_s (N : Nat) : (math_remainder_con N).Sound Try.prog :=
  Con.sound_of (c := math_remainder_con N) (E := (math_remainder_E N)) (idle := []) Try.func111 (by kernel_rfl) (by kernel_rfl) ⟨(allCons (math_IsNaN_s N) (allCons (math_IsInf_s N) (allCons (math_NaN_s N) (allCons (math_Mod_s N) allNil)))), allNil⟩ allNil (fun x y h => (math_remainder_t N x.1 x.2.1).trans h)
/-- math.Remainder -/
noncomputable def math_Remainder_E (N : Nat) : Env := ⟨Try.prog, N, [math_remainder_con N], [(0, ⟨[], [], [0, 1], [], none⟩), (1, ⟨[], [], [0, 1], [], none⟩), (2, ⟨[], [], [0, 1], [], none⟩)], kdL [], []⟩
def math_Remainder_g (N : Nat) (v1 : Nat) (v2 : Nat) : Option (Nat) :=
  ((math_remainder N v1 v2).bind fun v3 => (some v3))
def math_Remainder (N : Nat) (v1 : Nat) (v2 : Nat) : Option (Nat) :=
  math_Remainder_g N v1 v2
set_option maxRecDepth 100000
theorem math_Remainder_t (N : Nat) (v1 : Nat) (v2 : Nat) : evF (math_Remainder_E N) [] Try.f84 [.k .float, .k .float] [.float] (v1, v2, ()) = math_Remainder N v1 v2 := by
  exact (show evF (math_Remainder_E N) [] Try.f84 [.k .float, .k .float] [.float] (v1, v2, ()) = math_Remainder_g N v1 v2 from by kernel_rfl).trans (by rfl)
noncomputable def math_Remainder_con (N : Nat) : Con := ⟨84, [.k .float, .k .float], [.float], fun x => math_Remainder N x.1 x.2.1⟩
theorem math_Remainder_s (N : Nat) : (math_Remainder_con N).Sound Try.prog :=
  Con.sound_of (c := math_Remainder_con N) (E := (math_Remainder_E N)) (idle := []) Try.func84 (by kernel_rfl) (by kernel_rfl) ⟨(allCons (math_remainder_s N) allNil), allNil⟩ allNil (fun x y h => (math_Remainder_t N x.1 x.2.1).trans h)
/-- pub-orthodrome/laws.round -/
noncomputable def laws_round_E (N : Nat) : Env := ⟨Try.prog, N, [math_Remainder_con N, math_Abs_con N], [(0, ⟨[], [], [0, 1], [], none⟩), (1, ⟨[], [], [0, 1], [], none⟩)], kdL [], []⟩
def laws_round_g (N : Nat) (v1 : Nat) (v2 : Nat) : Option (Bool) :=
  ((Ieee.double.sub v1 v2).bind fun v3 => (math_Remainder N v3 4618760256179416344).bind fun v4 => (math_Abs N v4).bind fun v5 => (some (flt v5 4472074429978902528)))
def laws_round (N : Nat) (v1 : Nat) (v2 : Nat) : Option (Bool) :=
  laws_round_g N v1 v2
set_option maxRecDepth 100000
theorem laws_round_t (N : Nat) (v1 : Nat) (v2 : Nat) : evF (laws_round_E N) [] Try.f42 [.k .float, .k .float] [.bool] (v1, v2, ()) = laws_round N v1 v2 := by
  exact (show evF (laws_round_E N) [] Try.f42 [.k .float, .k .float] [.bool] (v1, v2, ()) = laws_round_g N v1 v2 from by kernel_rfl).trans (by rfl)
noncomputable def laws_round_con (N : Nat) : Con := ⟨42, [.k .float, .k .float], [.bool], fun x => laws_round N x.1 x.2.1⟩
theorem laws_round_s (N : Nat) : (laws_round_con N).Sound Try.prog :=
  Con.sound_of (c := laws_round_con N) (E := (laws_round_E N)) (idle := []) Try.func42 (by kernel_rfl) (by kernel_rfl) ⟨(allCons (math_Remainder_s N) (allCons (math_Abs_s N) allNil)), allNil⟩ allNil (fun x y h => (laws_round_t N x.1 x.2.1).trans h)
/-- pub-orthodrome/laws.FnAngleDiff -/
noncomputable def laws_FnAngleDiff_E (N : Nat) : Env := ⟨Try.prog, N, [math_Abs_con N, impl_AngleDiff_con N, laws_round_con N], [(0, ⟨[], [], [0, 1], [], none⟩), (1, ⟨[], [], [0, 1], [], none⟩), (2, ⟨[], [], [0, 1, 14], [], none⟩), (3, ⟨[], [], [0, 1], [], none⟩), (4, ⟨[], [], [0, 1, 5], [], none⟩)], kdL [], []⟩
def laws_FnAngleDiff_g (N : Nat) (v1 : Nat) (v2 : Nat) : Option (Bool) :=
  ((math_Abs N v1).bind fun v3 => bif (fle v3 4614256656552045848) then ((math_Abs N v2).bind fun v4 => (bif (!(fle v4 4614256656552045848)) then (some true) else ((impl_AngleDiff N v1 v2).bind fun v5 => (bif (fge v5 0) then (bif (fle v5 4614256656554143000) then ((Ieee.double.add v1 v5).bind fun v6 => (laws_round N v6 v2).bind fun v7 => bif v7 then ((impl_AngleDiff N v2 v1).bind fun v8 => (some (feq v5 v8))) else ((Ieee.double.sub v1 v5).bind fun v9 => (laws_round N v9 v2).bind fun v10 => bif v10 then ((impl_AngleDiff N v2 v1).bind fun v11 => (some (feq v5 v11))) else (some false))) else (some false)) else (some false))))) else (some true))
def laws_FnAngleDiff (N : Nat) (v1 : Nat) (v2 : Nat) : Option (Bool) :=
  laws_FnAngleDiff_g N v1 v2
set_option maxRecDepth 100000
theorem laws_FnAngleDiff_t (N : Nat) (v1 : Nat) (v2 : Nat) : evF (laws_FnAngleDiff_E N) [] Try.f9 [.k .float, .k .float] [.bool] (v1, v2, ()) = laws_FnAngleDiff N v1 v2 := by
  exact (show evF (laws_FnAngleDiff_E N) [] Try.f9 [.k .float, .k .float] [.bool] (v1, v2, ()) = laws_FnAngleDiff_g N v1 v2 from by kernel_rfl).trans (by rfl)
noncomputable def laws_FnAngleDiff_con (N : Nat) : Con := ⟨9, [.k .float, .k .float], [.bool], fun x => laws_FnAngleDiff N x.1 x.2.1⟩
theorem laws_FnAngleDiff_s (N : Nat) : (laws_FnAngleDiff_con N).Sound Try.prog :=
  Con.sound_of (c := laws_FnAngleDiff_con N) (E := (laws_FnAngleDiff_E N)) (idle := []) Try.func9 (by kernel_rfl) (by kernel_rfl) ⟨(allCons (math_Abs_s N) (allCons (impl_AngleDiff_s N) (allCons (laws_round_s N) allNil))), allNil⟩ allNil (fun x y h => (laws_FnAngleDiff_t N x.1 x.2.1).trans h)
end Go.Proofs.Ytlbbldhbggfoaaa.U9
