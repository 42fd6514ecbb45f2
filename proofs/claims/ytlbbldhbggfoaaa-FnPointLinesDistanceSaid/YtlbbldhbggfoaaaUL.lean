import Derived.Test.YtlbbldhbggfoaaaProg
import Derived.Test.YtlbbldhbggfoaaaAv16
import Derived.Test.YtlbbldhbggfoaaaAv19
import Derived.Test.YtlbbldhbggfoaaaAv20
import Derived.Test.YtlbbldhbggfoaaaAv21
import Derived.Test.YtlbbldhbggfoaaaAv25
import Derived.Test.YtlbbldhbggfoaaaAv31
import Derived.Test.YtlbbldhbggfoaaaAv32
import Derived.KernelRfl
set_option linter.unusedVariables false
namespace Go.Proofs.Ytlbbldhbggfoaaa.UL
open Go Go.Av
/-- math.Float64bits -/
def math_Float64bits (N : Nat) (v1 : Nat) : Option Int := some ((v1 : Nat) : Int)
noncomputable def math_Float64bits_con (N : Nat) : Con := ⟨51, [.k .float], [(.int .u64)], fun x => math_Float64bits N x.1⟩
theorem math_Float64bits_s (N : Nat) : (math_Float64bits_con N).Sound Try.prog := bits_of Try.func51 (by kernel_rfl) (by kernel_rfl) (by kernel_rfl) (by kernel_rfl)
/-- math.Float64frombits -/
def math_Float64frombits (N : Nat) (v1 : Int) : Option Nat := some (v1 : Int).toNat
noncomputable def math_Float64frombits_con (N : Nat) : Con := ⟨50, [.k (.int .u64)], [.float], fun x => math_Float64frombits N x.1⟩
theorem math_Float64frombits_s (N : Nat) : (math_Float64frombits_con N).Sound Try.prog := frombits_of Try.func50 (by kernel_rfl) (by kernel_rfl) (by kernel_rfl) (by kernel_rfl)
/-- math.Abs -/
noncomputable def math_Abs_E (N : Nat) : Env := ⟨Try.prog, N, [math_Float64bits_con N, math_Float64frombits_con N], [(0, ⟨[], [], [0], [], none⟩), (1, ⟨[], [], [0], [], none⟩)], kdL [], []⟩
def math_Abs_g (N : Nat) (v1 : Nat) : Option (Nat) :=
  ((math_Float64bits N v1).bind fun v2 => (math_Float64frombits N (bits .andNot .u64 v2 9223372036854775808)).bind fun v3 => (some v3))
def math_Abs (N : Nat) (v1 : Nat) : Option (Nat) :=
  math_Abs_g N v1
set_option maxRecDepth 100000
theorem math_Abs_t (N : Nat) (v1 : Nat) : evF (math_Abs_E N) [] Try.f14 [.k .float] [.float] (v1, ()) = math_Abs N v1 := by
  exact (show evF (math_Abs_E N) [] Try.f14 [.k .float] [.float] (v1, ()) = math_Abs_g N v1 from by kernel_rfl).trans (by rfl)
noncomputable def math_Abs_con (N : Nat) : Con := ⟨14, [.k .float], [.float], fun x => math_Abs N x.1⟩
theorem math_Abs_s (N : Nat) : (math_Abs_con N).Sound Try.prog :=
  Con.sound_of (c := math_Abs_con N) (E := (math_Abs_E N)) (idle := []) Try.func14 (by kernel_rfl) (by kernel_rfl) ⟨(allCons (math_Float64bits_s N) (allCons (math_Float64frombits_s N) allNil)), allNil⟩ allNil (fun x y h => (math_Abs_t N x.1).trans h)
/-- math.archTrunc -/
def math_archTrunc (N : Nat) (v1 : Nat) : Option ((Nat × Unit) ⊕ (Unit × Unit)) := some (fwholeN .zero v1)
noncomputable def math_archTrunc_con (N : Nat) : Con2 := ⟨93, [.k .float], [⟨[.k .float], [none]⟩, ⟨[.nan], [none]⟩], fun x => math_archTrunc N x.1⟩
theorem math_archTrunc_s (N : Nat) : (math_archTrunc_con N).Sound Try.prog := wholeN_of (name := "math.archTrunc") Try.func93 (by kernel_rfl) (by kernel_rfl) (by kernel_rfl) (by kernel_rfl)
/-- math.Trunc -/
noncomputable def math_Trunc_E (N : Nat) : Env := ⟨Try.prog, N, [], [(0, ⟨[], [], [0], [], none⟩), (1, ⟨[], [], [0], [], none⟩), (2, ⟨[], [], [0], [], none⟩)], kdL [], [math_archTrunc_con N]⟩
def math_Trunc_g (N : Nat) (v1 : Nat) : Option ((Nat × Unit) ⊕ (Unit × Unit)) :=
  ((math_archTrunc N v1).bind fun v2 => Sum.elim (fun v3 => (some (Sum.inl (v3.1, ())))) (fun v4 => (some (Sum.inr ((), ())))) v2)
def math_Trunc (N : Nat) (v1 : Nat) : Option ((Nat × Unit) ⊕ (Unit × Unit)) :=
  math_Trunc_g N v1
set_option maxRecDepth 100000
theorem math_Trunc_t (N : Nat) (v1 : Nat) : evF2 (math_Trunc_E N) [] Try.f58 [.k .float] [⟨[.k .float], [none]⟩, ⟨[.nan], [none]⟩] (v1, ()) = math_Trunc N v1 := by
  exact (show evF2 (math_Trunc_E N) [] Try.f58 [.k .float] [⟨[.k .float], [none]⟩, ⟨[.nan], [none]⟩] (v1, ()) = math_Trunc_g N v1 from by kernel_rfl).trans (by rfl)
noncomputable def math_Trunc_con (N : Nat) : Con2 := ⟨58, [.k .float], [⟨[.k .float], [none]⟩, ⟨[.nan], [none]⟩], fun x => math_Trunc N x.1⟩
theorem math_Trunc_s (N : Nat) : (math_Trunc_con N).Sound Try.prog :=
  Con2.sound_of (c := math_Trunc_con N) (E := (math_Trunc_E N)) (idle := []) Try.func58 (by kernel_rfl) (by kernel_rfl) ⟨allNil, (allCons (math_archTrunc_s N) allNil)⟩ allNil (fun x y h => (math_Trunc_t N x.1).trans h)
/-- pub-orthodrome/laws.wholeTo -/
noncomputable def laws_wholeTo_E (N : Nat) : Env := ⟨Try.prog, N, [math_Abs_con N], [(0, ⟨[], [], [0, 1], [], none⟩), (1, ⟨[], [], [0, 1], [], none⟩), (2, ⟨[], [], [0, 7, 8, 9], [], none⟩), (3, ⟨[], [], [0, 7, 8, 9], [], none⟩), (4, ⟨[], [], [0, 6, 7, 8, 9], [], none⟩), (5, ⟨[], [], [0, 7, 8, 9, 22], [], some N⟩), (6, ⟨[], [], [0, 7, 8, 9], [], none⟩), (7, ⟨[], [], [], [], none⟩)], kdL [], [math_Trunc_con N]⟩
def laws_wholeTo_g1 (N : Nat) (v1 : Nat) (v2 : (List Nat)) (v8 : Int) (r0 : Int → Option (Bool)) : Option (Bool) :=
  (some false)
def laws_wholeTo_j1 (N : Nat) (r0 : Int → Option (Bool)) (v1 : Nat) (v2 : (List Nat)) (v8 : Int) : Option (Bool) :=
  gate N (laws_wholeTo_g1 N v1 v2 v8 r0)
def laws_wholeTo_g0 (N : Nat) (v1 : Nat) (v2 : (List Nat)) (c1 : Int → Option (Bool)) (r0 : Int → Option (Bool)) (v8 : Int) : Option (Bool) :=
  (bif (decide ((v8 : Int) < (v2.length : Int))) then ((nth v2 v8).bind fun v9 => ((math_Trunc N v9).bind fun v10 => Sum.elim (fun v11 => bif (fne v9 v11.1) then (c1 v8) else ((math_Abs N v9).bind fun v13 => (gate N (bif (fgt v13 v1) then (some false) else ((r0 (IntKind.i64.wrap (v8 + 1)))))))) (fun v12 => (c1 v8)) v10)) else (some true))
def laws_wholeTo_l0 (N : Nat) : Nat → Nat → (List Nat) → Int → Option (Bool)
  | 0, _, _, _ => none
  | n + 1, v1, v2, v8 => laws_wholeTo_g0 N v1 v2 (laws_wholeTo_j1 N (laws_wholeTo_l0 N n v1 v2) v1 v2) (laws_wholeTo_l0 N n v1 v2) v8
def laws_wholeTo_g (N : Nat) (v1 : Nat) (v2 : (List Nat)) (c0 : Nat → (List Nat) → Int → Option (Bool)) : Option (Bool) :=
  ((c0 v1 v2 0))
def laws_wholeTo (N : Nat) (v1 : Nat) (v2 : (List Nat)) : Option (Bool) :=
  laws_wholeTo_g N v1 v2 (laws_wholeTo_l0 N N)
set_option maxRecDepth 100000
noncomputable def laws_wholeTo_e1 (N : Nat) (m0 : Nat) (v1 : Nat) (v2 : (List Nat)) (v8 : Int) : Option (HR [.bool]) :=
  gate N (evC (laws_wholeTo_E N) (codeAt (bodyOf Try.f62) [1, 0, 1, 0, 0, 1, 1, 0, 0, 1, 1]) ⟨[(0, .pv .float v1), (7, .pv (.list .float) v2), (8, .pv (.int .i64) (v2.length : Int)), (9, .pv (.int .i64) v8), (22, .pv .bool true)], [], []⟩ (kBlock 1 (kSeq (advOf (laws_wholeTo_E N) (codeAt (bodyOf Try.f62) [1, 0, 1, 0, 0, 1, 1, 1])) (evC (laws_wholeTo_E N) (codeAt (bodyOf Try.f62) [1, 0, 1, 0, 0, 1, 1, 1])) (kSeq (advOf (laws_wholeTo_E N) (codeAt (bodyOf Try.f62) [1, 0, 1, 0, 0])) (fun st K => loopN (advOf (laws_wholeTo_E N) (codeAt (bodyOf Try.f62) [1, 0, 1, 0, 0])) (evC (laws_wholeTo_E N) (codeAt (bodyOf Try.f62) [1, 0, 1, 0, 0])) m0 st K) (kBlock 0 (kSeq (advOf (laws_wholeTo_E N) (codeAt (bodyOf Try.f62) [1, 1])) (evC (laws_wholeTo_E N) (codeAt (bodyOf Try.f62) [1, 1])) (kEnd (laws_wholeTo_E N) [] Try.f62.results.toList [.bool])))))))
noncomputable def laws_wholeTo_e0 (N : Nat) (n : Nat) (v1 : Nat) (v2 : (List Nat)) (v8 : Int) : Option (HR [.bool]) :=
  loopN (advOf (laws_wholeTo_E N) (codeAt (bodyOf Try.f62) [1, 0, 1, 0, 0])) (evC (laws_wholeTo_E N) (codeAt (bodyOf Try.f62) [1, 0, 1, 0, 0])) n ⟨[(0, .pv .float v1), (7, .pv (.list .float) v2), (8, .pv (.int .i64) (v2.length : Int)), (9, .pv (.int .i64) v8)], [], []⟩ (kBlock 0 (kSeq (advOf (laws_wholeTo_E N) (codeAt (bodyOf Try.f62) [1, 1])) (evC (laws_wholeTo_E N) (codeAt (bodyOf Try.f62) [1, 1])) (kEnd (laws_wholeTo_E N) [] Try.f62.results.toList [.bool])))
theorem laws_wholeTo_t1 (N : Nat) (m0 : Nat) (v1 : Nat) (v2 : (List Nat)) (v8 : Int) : laws_wholeTo_e1 N m0 v1 v2 v8 = laws_wholeTo_j1 N (laws_wholeTo_e0 N m0 v1 v2) v1 v2 v8 := by
  exact (congrArg (gate N) (show evC (laws_wholeTo_E N) (codeAt (bodyOf Try.f62) [1, 0, 1, 0, 0, 1, 1, 0, 0, 1, 1]) ⟨[(0, .pv .float v1), (7, .pv (.list .float) v2), (8, .pv (.int .i64) (v2.length : Int)), (9, .pv (.int .i64) v8), (22, .pv .bool true)], [], []⟩ (kBlock 1 (kSeq (advOf (laws_wholeTo_E N) (codeAt (bodyOf Try.f62) [1, 0, 1, 0, 0, 1, 1, 1])) (evC (laws_wholeTo_E N) (codeAt (bodyOf Try.f62) [1, 0, 1, 0, 0, 1, 1, 1])) (kSeq (advOf (laws_wholeTo_E N) (codeAt (bodyOf Try.f62) [1, 0, 1, 0, 0])) (fun st K => loopN (advOf (laws_wholeTo_E N) (codeAt (bodyOf Try.f62) [1, 0, 1, 0, 0])) (evC (laws_wholeTo_E N) (codeAt (bodyOf Try.f62) [1, 0, 1, 0, 0])) m0 st K) (kBlock 0 (kSeq (advOf (laws_wholeTo_E N) (codeAt (bodyOf Try.f62) [1, 1])) (evC (laws_wholeTo_E N) (codeAt (bodyOf Try.f62) [1, 1])) (kEnd (laws_wholeTo_E N) [] Try.f62.results.toList [.bool])))))) = laws_wholeTo_g1 N v1 v2 v8 (laws_wholeTo_e0 N m0 v1 v2) from by kernel_rfl)).trans (by rfl)
theorem laws_wholeTo_t0 (N : Nat) : ∀ (n : Nat) (v1 : Nat) (v2 : (List Nat)) (v8 : Int), laws_wholeTo_e0 N n v1 v2 v8 = laws_wholeTo_l0 N n v1 v2 v8
  | 0, _, _, _ => rfl
  | n + 1, v1, v2, v8 => by
    have h1 : (laws_wholeTo_e1 N n v1 v2) = (laws_wholeTo_j1 N (laws_wholeTo_e0 N n v1 v2) v1 v2) := by funext v8; exact laws_wholeTo_t1 N n v1 v2 v8
    have h : laws_wholeTo_e0 N n v1 v2 = laws_wholeTo_l0 N n v1 v2 := by funext v8; exact laws_wholeTo_t0 N n v1 v2 v8
    exact (show laws_wholeTo_e0 N (n + 1) v1 v2 v8 = laws_wholeTo_g0 N v1 v2 (laws_wholeTo_e1 N n v1 v2) (laws_wholeTo_e0 N n v1 v2) v8 from by kernel_rfl).trans (by rw [h1, h]; rfl)
theorem laws_wholeTo_t (N : Nat) (v1 : Nat) (v2 : (List Nat)) : evF (laws_wholeTo_E N) [] Try.f62 [.k .float, .k (.list .float)] [.bool] (v1, v2, ()) = laws_wholeTo N v1 v2 := by
  have h0 : (laws_wholeTo_e0 N N) = (laws_wholeTo_l0 N N) := by funext v1 v2 v8; exact laws_wholeTo_t0 N N v1 v2 v8
  exact (show evF (laws_wholeTo_E N) [] Try.f62 [.k .float, .k (.list .float)] [.bool] (v1, v2, ()) = laws_wholeTo_g N v1 v2 (laws_wholeTo_e0 N N) from by kernel_rfl).trans (by rw [h0]; rfl)
noncomputable def laws_wholeTo_con (N : Nat) : Con := ⟨62, [.k .float, .k (.list .float)], [.bool], fun x => laws_wholeTo N x.1 x.2.1⟩
theorem laws_wholeTo_s (N : Nat) : (laws_wholeTo_con N).Sound Try.prog :=
  Con.sound_of (c := laws_wholeTo_con N) (E := (laws_wholeTo_E N)) (idle := []) Try.func62 (by kernel_rfl) (by kernel_rfl) ⟨(allCons (math_Abs_s N) allNil), (allCons (math_Trunc_s N) allNil)⟩ allNil (fun x y h => (laws_wholeTo_t N x.1 x.2.1).trans h)
/-- pub-orthodrome/laws.planeTo -/
noncomputable def laws_planeTo_E (N : Nat) : Env := ⟨Try.prog, N, [laws_wholeTo_con N], [(0, ⟨[], [], [0, 1], [], none⟩), (1, ⟨[], [], [0, 1], [], none⟩), (2, ⟨[], [], [0, 7, 8, 9], [], none⟩), (3, ⟨[], [], [0, 7, 8, 9], [], none⟩), (4, ⟨[], [], [0, 6, 7, 8, 9], [6], none⟩), (5, ⟨[], [], [0, 7, 8, 9, 20], [], none⟩), (6, ⟨[], [], [0, 7, 8, 9], [], none⟩), (7, ⟨[], [], [], [], none⟩)], kdL [(22, .float)], []⟩
def laws_planeTo_g0 (N : Nat) (v1 : Nat) (v2 : (List (Nat × (Nat × Unit)))) (r0 : Int → Option (Bool)) (v5 : Int) : Option (Bool) :=
  (bif (decide ((v5 : Int) < (v2.length : Int))) then ((nth v2 v5).bind fun v6 => ((laws_wholeTo N v1 ([v6.1, v6.2.1] : List Nat)).bind fun v7 => (bif (!v7) then (some false) else ((r0 (IntKind.i64.wrap (v5 + 1))))))) else (some true))
def laws_planeTo_l0 (N : Nat) : Nat → Nat → (List (Nat × (Nat × Unit))) → Int → Option (Bool)
  | 0, _, _, _ => none
  | n + 1, v1, v2, v5 => laws_planeTo_g0 N v1 v2 (laws_planeTo_l0 N n v1 v2) v5
def laws_planeTo_g (N : Nat) (v1 : Nat) (v2 : (List (Nat × (Nat × Unit)))) (c0 : Nat → (List (Nat × (Nat × Unit))) → Int → Option (Bool)) : Option (Bool) :=
  ((c0 v1 v2 0))
def laws_planeTo (N : Nat) (v1 : Nat) (v2 : (List (Nat × (Nat × Unit)))) : Option (Bool) :=
  laws_planeTo_g N v1 v2 (laws_planeTo_l0 N N)
set_option maxRecDepth 100000
noncomputable def laws_planeTo_e0 (N : Nat) (n : Nat) (v1 : Nat) (v2 : (List (Nat × (Nat × Unit)))) (v5 : Int) : Option (HR [.bool]) :=
  loopN (advOf (laws_planeTo_E N) (codeAt (bodyOf Try.f36) [1, 0, 1, 0, 0])) (evC (laws_planeTo_E N) (codeAt (bodyOf Try.f36) [1, 0, 1, 0, 0])) n ⟨[(0, .pv .float v1), (7, .pv (.list (.pair .float (.pair .float .unit))) v2), (8, .pv (.int .i64) (v2.length : Int)), (9, .pv (.int .i64) v5)], [], []⟩ (kBlock 0 (kSeq (advOf (laws_planeTo_E N) (codeAt (bodyOf Try.f36) [1, 1])) (evC (laws_planeTo_E N) (codeAt (bodyOf Try.f36) [1, 1])) (kEnd (laws_planeTo_E N) [] Try.f36.results.toList [.bool])))
theorem laws_planeTo_t0 (N : Nat) : ∀ (n : Nat) (v1 : Nat) (v2 : (List (Nat × (Nat × Unit)))) (v5 : Int), laws_planeTo_e0 N n v1 v2 v5 = laws_planeTo_l0 N n v1 v2 v5
  | 0, _, _, _ => rfl
  | n + 1, v1, v2, v5 => by
    have h : laws_planeTo_e0 N n v1 v2 = laws_planeTo_l0 N n v1 v2 := by funext v5; exact laws_planeTo_t0 N n v1 v2 v5
    exact (show laws_planeTo_e0 N (n + 1) v1 v2 v5 = laws_planeTo_g0 N v1 v2 (laws_planeTo_e0 N n v1 v2) v5 from by kernel_rfl).trans (by rw [h]; rfl)
theorem laws_planeTo_t (N : Nat) (v1 : Nat) (v2 : (List (Nat × (Nat × Unit)))) : evF (laws_planeTo_E N) [] Try.f36 [.k .float, .k (.list (.pair .float (.pair .float .unit)))] [.bool] (v1, v2, ()) = laws_planeTo N v1 v2 := by
  have h0 : (laws_planeTo_e0 N N) = (laws_planeTo_l0 N N) := by funext v1 v2 v5; exact laws_planeTo_t0 N N v1 v2 v5
  exact (show evF (laws_planeTo_E N) [] Try.f36 [.k .float, .k (.list (.pair .float (.pair .float .unit)))] [.bool] (v1, v2, ()) = laws_planeTo_g N v1 v2 (laws_planeTo_e0 N N) from by kernel_rfl).trans (by rw [h0]; rfl)
noncomputable def laws_planeTo_con (N : Nat) : Con := ⟨36, [.k .float, .k (.list (.pair .float (.pair .float .unit)))], [.bool], fun x => laws_planeTo N x.1 x.2.1⟩
theorem laws_planeTo_s (N : Nat) : (laws_planeTo_con N).Sound Try.prog :=
  Con.sound_of (c := laws_planeTo_con N) (E := (laws_planeTo_E N)) (idle := []) Try.func36 (by kernel_rfl) (by kernel_rfl) ⟨(allCons (laws_wholeTo_s N) allNil), allNil⟩ allNil (fun x y h => (laws_planeTo_t N x.1 x.2.1).trans h)
/-- math.sqrt -/
def math_sqrt (N : Nat) (v1 : Nat) : Option Nat := fsqrt v1
noncomputable def math_sqrt_con (N : Nat) : Con := ⟨60, [.k .float], [.float], fun x => math_sqrt N x.1⟩
theorem math_sqrt_s (N : Nat) : (math_sqrt_con N).Sound Try.prog := sqrt_of Try.func60 (by kernel_rfl) (by kernel_rfl) (by kernel_rfl) (by kernel_rfl)
/-- math.Sqrt -/
noncomputable def math_Sqrt_E (N : Nat) : Env := ⟨Try.prog, N, [math_sqrt_con N], [(0, ⟨[], [], [0], [], none⟩), (1, ⟨[], [], [0], [], none⟩)], kdL [], []⟩
def math_Sqrt_g (N : Nat) (v1 : Nat) : Option (Nat) :=
  ((math_sqrt N v1).bind fun v2 => (some v2))
def math_Sqrt (N : Nat) (v1 : Nat) : Option (Nat) :=
  math_Sqrt_g N v1
set_option maxRecDepth 100000
theorem math_Sqrt_t (N : Nat) (v1 : Nat) : evF (math_Sqrt_E N) [] Try.f24 [.k .float] [.float] (v1, ()) = math_Sqrt N v1 := by
  exact (show evF (math_Sqrt_E N) [] Try.f24 [.k .float] [.float] (v1, ()) = math_Sqrt_g N v1 from by kernel_rfl).trans (by rfl)
noncomputable def math_Sqrt_con (N : Nat) : Con := ⟨24, [.k .float], [.float], fun x => math_Sqrt N x.1⟩
theorem math_Sqrt_s (N : Nat) : (math_Sqrt_con N).Sound Try.prog :=
  Con.sound_of (c := math_Sqrt_con N) (E := (math_Sqrt_E N)) (idle := []) Try.func24 (by kernel_rfl) (by kernel_rfl) ⟨(allCons (math_sqrt_s N) allNil), allNil⟩ allNil (fun x y h => (math_Sqrt_t N x.1).trans h)
/-- pub-orthodrome/pub/gogeom/xy/inner.Distance2D -/
noncomputable def inner_Distance2D_E (N : Nat) : Env := ⟨Try.prog, N, [math_Sqrt_con N], [(0, ⟨[], [], [0, 1], [], none⟩), (1, ⟨[], [], [0, 1], [], none⟩), (2, ⟨[], [], [0, 1, 5], [], none⟩), (3, ⟨[], [], [5, 6], [], none⟩)], kdL [], []⟩
def inner_Distance2D_g (N : Nat) (v1 : (List Nat)) (v2 : (List Nat)) : Option (Nat) :=
  ((nth v1 0).bind fun v3 => (nth v2 0).bind fun v4 => (Ieee.double.sub v3 v4).bind fun v5 => ((nth v1 1).bind fun v6 => (nth v2 1).bind fun v7 => (Ieee.double.sub v6 v7).bind fun v8 => ((Ieee.double.mul v5 v5).bind fun v9 => (Ieee.double.mul v8 v8).bind fun v10 => (Ieee.double.add v9 v10).bind fun v11 => (math_Sqrt N v11).bind fun v12 => (some v12))))
def inner_Distance2D (N : Nat) (v1 : (List Nat)) (v2 : (List Nat)) : Option (Nat) :=
  inner_Distance2D_g N v1 v2
set_option maxRecDepth 100000
theorem inner_Distance2D_t (N : Nat) (v1 : (List Nat)) (v2 : (List Nat)) : evF (inner_Distance2D_E N) [] Try.f107 [.k (.list .float), .k (.list .float)] [.float] (v1, v2, ()) = inner_Distance2D N v1 v2 := by
  exact (show evF (inner_Distance2D_E N) [] Try.f107 [.k (.list .float), .k (.list .float)] [.float] (v1, v2, ()) = inner_Distance2D_g N v1 v2 from by kernel_rfl).trans (by rfl)
noncomputable def inner_Distance2D_con (N : Nat) : Con := ⟨107, [.k (.list .float), .k (.list .float)], [.float], fun x => inner_Distance2D N x.1 x.2.1⟩
theorem inner_Distance2D_s (N : Nat) : (inner_Distance2D_con N).Sound Try.prog :=
  Con.sound_of (c := inner_Distance2D_con N) (E := (inner_Distance2D_E N)) (idle := []) Try.func107 (by kernel_rfl) (by kernel_rfl) ⟨(allCons (math_Sqrt_s N) allNil), allNil⟩ allNil (fun x y h => (inner_Distance2D_t N x.1 x.2.1).trans h)
/-- pub-orthodrome/pub/gogeom/xy.DistanceFromPointToLine -/
noncomputable def xy_DistanceFromPointToLine_E (N : Nat) : Env := ⟨Try.prog, N, [inner_Distance2D_con N, math_Abs_con N, math_Sqrt_con N], [(0, ⟨[], [], [0, 1, 2], [], none⟩), (1, ⟨[], [], [0, 1, 2], [], none⟩), (2, ⟨[], [], [0, 1, 2, 25], [], none⟩), (3, ⟨[], [], [0, 1, 2], [], some N⟩), (4, ⟨[], [], [0, 1, 2, 7], [], none⟩), (5, ⟨[], [], [0, 1, 2, 7, 8], [], none⟩), (6, ⟨[], [], [0, 1, 2, 7, 8, 94], [], none⟩), (7, ⟨[], [], [0, 1, 2, 7, 8], [], none⟩), (8, ⟨[], [], [0, 1, 2, 7, 99], [], none⟩), (9, ⟨[], [], [0, 1, 2, 7], [], none⟩), (10, ⟨[], [], [7, 9], [], none⟩)], kdL [], []⟩
def xy_DistanceFromPointToLine_g0 (N : Nat) (v1 : (List Nat)) (v2 : (List Nat)) (v3 : (List Nat)) : Option (Nat) :=
  (nth v3 0).bind fun v9 => (nth v2 0).bind fun v10 => (Ieee.double.sub v9 v10).bind fun v11 => (nth v3 0).bind fun v12 => (nth v2 0).bind fun v13 => (Ieee.double.sub v12 v13).bind fun v14 => (Ieee.double.mul v11 v14).bind fun v15 => (nth v3 1).bind fun v16 => (nth v2 1).bind fun v17 => (Ieee.double.sub v16 v17).bind fun v18 => (nth v3 1).bind fun v19 => (nth v2 1).bind fun v20 => (Ieee.double.sub v19 v20).bind fun v21 => (Ieee.double.mul v18 v21).bind fun v22 => (Ieee.double.add v15 v22).bind fun v23 => ((nth v1 0).bind fun v24 => (nth v2 0).bind fun v25 => (Ieee.double.sub v24 v25).bind fun v26 => (nth v3 0).bind fun v27 => (nth v2 0).bind fun v28 => (Ieee.double.sub v27 v28).bind fun v29 => (Ieee.double.mul v26 v29).bind fun v30 => (nth v1 1).bind fun v31 => (nth v2 1).bind fun v32 => (Ieee.double.sub v31 v32).bind fun v33 => (nth v3 1).bind fun v34 => (nth v2 1).bind fun v35 => (Ieee.double.sub v34 v35).bind fun v36 => (Ieee.double.mul v33 v36).bind fun v37 => (Ieee.double.add v30 v37).bind fun v38 => (Ieee.double.div v38 v23).bind fun v39 => (bif (fle v39 0) then ((inner_Distance2D N v1 v2).bind fun v40 => (some v40)) else (bif (fge v39 4607182418800017408) then ((inner_Distance2D N v1 v3).bind fun v41 => (some v41)) else ((nth v2 1).bind fun v42 => (nth v1 1).bind fun v43 => (Ieee.double.sub v42 v43).bind fun v44 => (nth v3 0).bind fun v45 => (nth v2 0).bind fun v46 => (Ieee.double.sub v45 v46).bind fun v47 => (Ieee.double.mul v44 v47).bind fun v48 => (nth v2 0).bind fun v49 => (nth v1 0).bind fun v50 => (Ieee.double.sub v49 v50).bind fun v51 => (nth v3 1).bind fun v52 => (nth v2 1).bind fun v53 => (Ieee.double.sub v52 v53).bind fun v54 => (Ieee.double.mul v51 v54).bind fun v55 => (Ieee.double.sub v48 v55).bind fun v56 => (Ieee.double.div v56 v23).bind fun v57 => ((math_Abs N v57).bind fun v58 => (math_Sqrt N v23).bind fun v59 => (Ieee.double.mul v58 v59).bind fun v60 => (some v60))))))
def xy_DistanceFromPointToLine_j0 (N : Nat) (v1 : (List Nat)) (v2 : (List Nat)) (v3 : (List Nat)) : Option (Nat) :=
  gate N (xy_DistanceFromPointToLine_g0 N v1 v2 v3)
def xy_DistanceFromPointToLine_g (N : Nat) (v1 : (List Nat)) (v2 : (List Nat)) (v3 : (List Nat)) (c0 : (List Nat) → (List Nat) → (List Nat) → Option (Nat)) : Option (Nat) :=
  ((nth v2 0).bind fun v4 => (nth v3 0).bind fun v5 => bif (feq v4 v5) then ((nth v2 1).bind fun v6 => (nth v3 1).bind fun v7 => (bif (feq v6 v7) then ((inner_Distance2D N v1 v2).bind fun v8 => (some v8)) else (c0 v1 v2 v3))) else (c0 v1 v2 v3))
def xy_DistanceFromPointToLine (N : Nat) (v1 : (List Nat)) (v2 : (List Nat)) (v3 : (List Nat)) : Option (Nat) :=
  xy_DistanceFromPointToLine_g N v1 v2 v3 (xy_DistanceFromPointToLine_j0 N)
set_option maxRecDepth 100000
noncomputable def xy_DistanceFromPointToLine_e0 (N : Nat) (v1 : (List Nat)) (v2 : (List Nat)) (v3 : (List Nat)) : Option (HR [.float]) :=
  gate N (evC (xy_DistanceFromPointToLine_E N) (codeAt (bodyOf Try.f74) [1, 1]) ⟨[(0, .pv (.list .float) v1), (1, .pv (.list .float) v2), (2, .pv (.list .float) v3)], [], []⟩ (kEnd (xy_DistanceFromPointToLine_E N) [] Try.f74.results.toList [.float]))
theorem xy_DistanceFromPointToLine_t0 (N : Nat) (v1 : (List Nat)) (v2 : (List Nat)) (v3 : (List Nat)) : xy_DistanceFromPointToLine_e0 N v1 v2 v3 = xy_DistanceFromPointToLine_j0 N v1 v2 v3 := by
  exact (congrArg (gate N) (show evC (xy_DistanceFromPointToLine_E N) (codeAt (bodyOf Try.f74) [1, 1]) ⟨[(0, .pv (.list .float) v1), (1, .pv (.list .float) v2), (2, .pv (.list .float) v3)], [], []⟩ (kEnd (xy_DistanceFromPointToLine_E N) [] Try.f74.results.toList [.float]) = xy_DistanceFromPointToLine_g0 N v1 v2 v3 from by kernel_rfl)).trans (by rfl)
theorem xy_DistanceFromPointToLine_t (N : Nat) (v1 : (List Nat)) (v2 : (List Nat)) (v3 : (List Nat)) : evF (xy_DistanceFromPointToLine_E N) [] Try.f74 [.k (.list .float), .k (.list .float), .k (.list .float)] [.float] (v1, v2, v3, ()) = xy_DistanceFromPointToLine N v1 v2 v3 := by
  have h0 : (xy_DistanceFromPointToLine_e0 N) = (xy_DistanceFromPointToLine_j0 N) := by funext v1 v2 v3; exact xy_DistanceFromPointToLine_t0 N v1 v2 v3
  exact (show evF (xy_DistanceFromPointToLine_E N) [] Try.f74 [.k (.list .float), .k (.list .float), .k (.list .float)] [.float] (v1, v2, v3, ()) = xy_DistanceFromPointToLine_g N v1 v2 v3 (xy_DistanceFromPointToLine_e0 N) from by kernel_rfl).trans (by rw [h0]; rfl)
noncomputable def xy_DistanceFromPointToLine_con (N : Nat) : Con := ⟨74, [.k (.list .float), .k (.list .float), .k (.list .float)], [.float], fun x => xy_DistanceFromPointToLine N x.1 x.2.1 x.2.2.1⟩
theorem xy_DistanceFromPointToLine_s (N : Nat) : (xy_DistanceFromPointToLine_con N).Sound Try.prog :=
  Con.sound_of (c := xy_DistanceFromPointToLine_con N) (E := (xy_DistanceFromPointToLine_E N)) (idle := []) Try.func74 (by kernel_rfl) (by kernel_rfl) ⟨(allCons (inner_Distance2D_s N) (allCons (math_Abs_s N) (allCons (math_Sqrt_s N) allNil))), allNil⟩ allNil (fun x y h => (xy_DistanceFromPointToLine_t N x.1 x.2.1 x.2.2.1).trans h)
/-- pub-orthodrome/impl.coord -/
noncomputable def impl_coord_E (N : Nat) : Env := ⟨Try.prog, N, [], [(0, ⟨[], [], [0], [], none⟩), (1, ⟨[], [], [1], [1], none⟩)], kdL [(22, .float)], []⟩
def impl_coord_g (N : Nat) (v1 : (Nat × (Nat × Unit))) : Option (((List Nat) × Unit)) :=
  (some (([v1.1, v1.2.1] : List Nat), ()))
def impl_coord (N : Nat) (v1 : (Nat × (Nat × Unit))) : Option (((List Nat) × Unit)) :=
  impl_coord_g N v1
set_option maxRecDepth 100000
theorem impl_coord_t (N : Nat) (v1 : (Nat × (Nat × Unit))) : evF2 (impl_coord_E N) [] Try.f75 [.k (.pair .float (.pair .float .unit))] [⟨[.row 22 .float], [none]⟩] (v1, ()) = impl_coord N v1 := by
  exact (show evF2 (impl_coord_E N) [] Try.f75 [.k (.pair .float (.pair .float .unit))] [⟨[.row 22 .float], [none]⟩] (v1, ()) = impl_coord_g N v1 from by kernel_rfl).trans (by rfl)
noncomputable def impl_coord_con (N : Nat) : Con2 := ⟨75, [.k (.pair .float (.pair .float .unit))], [⟨[.row 22 .float], [none]⟩], fun x => impl_coord N x.1⟩
theorem impl_coord_s (N : Nat) : (impl_coord_con N).Sound Try.prog :=
  Con2.sound_of (c := impl_coord_con N) (E := (impl_coord_E N)) (idle := []) Try.func75 (by kernel_rfl) (by kernel_rfl) ⟨allNil, allNil⟩ allNil (fun x y h => (impl_coord_t N x.1).trans h)
/-- pub-orthodrome/impl.PointLineDistance -/
noncomputable def impl_PointLineDistance_E (N : Nat) : Env := ⟨Try.prog, N, [xy_DistanceFromPointToLine_con N], [(0, ⟨[], [], [0, 1, 2], [], none⟩), (1, ⟨[], [], [3, 4, 5], [3, 4, 5], none⟩)], kdL [], [impl_coord_con N]⟩
def impl_PointLineDistance_g (N : Nat) (v1 : (Nat × (Nat × Unit))) (v2 : (Nat × (Nat × Unit))) (v3 : (Nat × (Nat × Unit))) : Option (Nat) :=
  ((impl_coord N (v1.1, v1.2.1, ())).bind fun v4 => (impl_coord N (v2.1, v2.2.1, ())).bind fun v5 => (impl_coord N (v3.1, v3.2.1, ())).bind fun v6 => (xy_DistanceFromPointToLine N v4.1 v5.1 v6.1).bind fun v7 => (some v7))
def impl_PointLineDistance (N : Nat) (v1 : (Nat × (Nat × Unit))) (v2 : (Nat × (Nat × Unit))) (v3 : (Nat × (Nat × Unit))) : Option (Nat) :=
  impl_PointLineDistance_g N v1 v2 v3
set_option maxRecDepth 100000
theorem impl_PointLineDistance_t (N : Nat) (v1 : (Nat × (Nat × Unit))) (v2 : (Nat × (Nat × Unit))) (v3 : (Nat × (Nat × Unit))) : evF (impl_PointLineDistance_E N) [] Try.f37 [.k (.pair .float (.pair .float .unit)), .k (.pair .float (.pair .float .unit)), .k (.pair .float (.pair .float .unit))] [.float] (v1, v2, v3, ()) = impl_PointLineDistance N v1 v2 v3 := by
  exact (show evF (impl_PointLineDistance_E N) [] Try.f37 [.k (.pair .float (.pair .float .unit)), .k (.pair .float (.pair .float .unit)), .k (.pair .float (.pair .float .unit))] [.float] (v1, v2, v3, ()) = impl_PointLineDistance_g N v1 v2 v3 from by kernel_rfl).trans (by rfl)
noncomputable def impl_PointLineDistance_con (N : Nat) : Con := ⟨37, [.k (.pair .float (.pair .float .unit)), .k (.pair .float (.pair .float .unit)), .k (.pair .float (.pair .float .unit))], [.float], fun x => impl_PointLineDistance N x.1 x.2.1 x.2.2.1⟩
theorem impl_PointLineDistance_s (N : Nat) : (impl_PointLineDistance_con N).Sound Try.prog :=
  Con.sound_of (c := impl_PointLineDistance_con N) (E := (impl_PointLineDistance_E N)) (idle := []) Try.func37 (by kernel_rfl) (by kernel_rfl) ⟨(allCons (xy_DistanceFromPointToLine_s N) allNil), (allCons (impl_coord_s N) allNil)⟩ allNil (fun x y h => (impl_PointLineDistance_t N x.1 x.2.1 x.2.2.1).trans h)
/-- pub-orthodrome/spec.trim -/
noncomputable def spec_trim_E (N : Nat) : Env := ⟨Try.prog, N, [], [(0, ⟨[], [], [0], [], none⟩), (1, ⟨[], [], [0], [], none⟩), (2, ⟨[], [], [0], [], none⟩), (3, ⟨[], [], [0], [], some N⟩)], kdL [], []⟩
def spec_trim_g1 (N : Nat) (v4 : (List Int)) : Option ((List Int)) :=
  (some v4)
def spec_trim_j1 (N : Nat) (v4 : (List Int)) : Option ((List Int)) :=
  gate N (spec_trim_g1 N v4)
def spec_trim_g0 (N : Nat) (c1 : (List Int) → Option ((List Int))) (r0 : (List Int) → Option ((List Int))) (v4 : (List Int)) : Option ((List Int)) :=
  bif (decide (((v4.length : Int) : Int) > 0)) then ((nth v4 (IntKind.i64.wrap ((v4.length : Int) - 1))).bind fun v5 => (bif (v5 == 0) then ((chk2 0 (IntKind.i64.wrap ((v4.length : Int) - 1)) v4.length).bind fun v6 => (r0 ((v4.drop v6.1).take (v6.2 - v6.1)))) else (c1 v4))) else (c1 v4)
def spec_trim_l0 (N : Nat) : Nat → (List Int) → Option ((List Int))
  | 0, _ => none
  | n + 1, v4 => spec_trim_g0 N (spec_trim_j1 N) (spec_trim_l0 N n) v4
def spec_trim_g (N : Nat) (v1 : (List Int)) (c0 : (List Int) → Option ((List Int))) : Option ((List Int)) :=
  ((c0 v1))
def spec_trim (N : Nat) (v1 : (List Int)) : Option ((List Int)) :=
  spec_trim_g N v1 (spec_trim_l0 N N)
set_option maxRecDepth 100000
noncomputable def spec_trim_e1 (N : Nat) (v4 : (List Int)) : Option (HR [(.list (.int .u32))]) :=
  gate N (evC (spec_trim_E N) (codeAt (bodyOf Try.f124) [1, 1]) ⟨[(0, .pv (.list (.int .u32)) v4)], [], []⟩ (kEnd (spec_trim_E N) [] Try.f124.results.toList [(.list (.int .u32))]))
noncomputable def spec_trim_e0 (N : Nat) (n : Nat) (v4 : (List Int)) : Option (HR [(.list (.int .u32))]) :=
  loopN (advOf (spec_trim_E N) (codeAt (bodyOf Try.f124) [1, 0, 0, 0])) (evC (spec_trim_E N) (codeAt (bodyOf Try.f124) [1, 0, 0, 0])) n ⟨[(0, .pv (.list (.int .u32)) v4)], [], []⟩ (kBlock 0 (kSeq (advOf (spec_trim_E N) (codeAt (bodyOf Try.f124) [1, 1])) (evC (spec_trim_E N) (codeAt (bodyOf Try.f124) [1, 1])) (kEnd (spec_trim_E N) [] Try.f124.results.toList [(.list (.int .u32))])))
theorem spec_trim_t1 (N : Nat) (v4 : (List Int)) : spec_trim_e1 N v4 = spec_trim_j1 N v4 := by
  exact (congrArg (gate N) (show evC (spec_trim_E N) (codeAt (bodyOf Try.f124) [1, 1]) ⟨[(0, .pv (.list (.int .u32)) v4)], [], []⟩ (kEnd (spec_trim_E N) [] Try.f124.results.toList [(.list (.int .u32))]) = spec_trim_g1 N v4 from by kernel_rfl)).trans (by rfl)
theorem spec_trim_t0 (N : Nat) : ∀ (n : Nat) (v4 : (List Int)), spec_trim_e0 N n v4 = spec_trim_l0 N n v4
  | 0, _ => rfl
  | n + 1, v4 => by
    have h1 : (spec_trim_e1 N) = (spec_trim_j1 N) := by funext v4; exact spec_trim_t1 N v4
    have h : spec_trim_e0 N n = spec_trim_l0 N n := by funext v4; exact spec_trim_t0 N n v4
    exact (show spec_trim_e0 N (n + 1) v4 = spec_trim_g0 N (spec_trim_e1 N) (spec_trim_e0 N n) v4 from by kernel_rfl).trans (by rw [h1, h]; rfl)
theorem spec_trim_t (N : Nat) (v1 : (List Int)) : evF (spec_trim_E N) [] Try.f124 [.k (.list (.int .u32))] [(.list (.int .u32))] (v1, ()) = spec_trim N v1 := by
  have h0 : (spec_trim_e0 N N) = (spec_trim_l0 N N) := by funext v4; exact spec_trim_t0 N N v4
  exact (show evF (spec_trim_E N) [] Try.f124 [.k (.list (.int .u32))] [(.list (.int .u32))] (v1, ()) = spec_trim_g N v1 (spec_trim_e0 N N) from by kernel_rfl).trans (by rw [h0]; rfl)
noncomputable def spec_trim_con (N : Nat) : Con := ⟨124, [.k (.list (.int .u32))], [(.list (.int .u32))], fun x => spec_trim N x.1⟩
theorem spec_trim_s (N : Nat) : (spec_trim_con N).Sound Try.prog :=
  Con.sound_of (c := spec_trim_con N) (E := (spec_trim_E N)) (idle := []) Try.func124 (by kernel_rfl) (by kernel_rfl) ⟨allNil, allNil⟩ allNil (fun x y h => (spec_trim_t N x.1).trans h)
/-- pub-orthodrome/spec.WholeOf -/
noncomputable def spec_WholeOf_E (N : Nat) : Env := ⟨Try.prog, N, [spec_trim_con N], [(0, ⟨[], [], [0], [], none⟩), (1, ⟨[], [], [0, 2], [2], none⟩), (2, ⟨[], [], [0, 2, 3], [2], none⟩), (3, ⟨[], [], [0, 2, 3, 7], [2], none⟩), (4, ⟨[], [], [0, 2, 3], [2], some N⟩)], kdL [(129, (.int .u32))], []⟩
def spec_WholeOf_g0 (N : Nat) (v1 : Int) (v2 : Int) : Option ((Bool × ((List Int) × Unit))) :=
  (spec_trim N ([(IntKind.u32.wrap v2), (IntKind.u32.wrap (Int.fdiv v2 (2 ^ (min (32 : Int).toNat (IntKind.bits .u64)))))] : List Int)).bind fun v3 => (some ((decide ((v1 : Int) < 0)), v3, ()))
def spec_WholeOf_j0 (N : Nat) (v1 : Int) (v2 : Int) : Option ((Bool × ((List Int) × Unit))) :=
  gate N (spec_WholeOf_g0 N v1 v2)
def spec_WholeOf_g (N : Nat) (v1 : Int) (c0 : Int → Int → Option ((Bool × ((List Int) × Unit)))) : Option ((Bool × ((List Int) × Unit))) :=
  (bif (decide ((v1 : Int) < 0)) then (c0 v1 (IntKind.u64.wrap (0 - (IntKind.u64.wrap v1)))) else (c0 v1 (IntKind.u64.wrap v1)))
def spec_WholeOf (N : Nat) (v1 : Int) : Option ((Bool × ((List Int) × Unit))) :=
  spec_WholeOf_g N v1 (spec_WholeOf_j0 N)
set_option maxRecDepth 100000
noncomputable def spec_WholeOf_e0 (N : Nat) (v1 : Int) (v2 : Int) : Option (HR [(.pair .bool (.pair (.list (.int .u32)) .unit))]) :=
  gate N (evC (spec_WholeOf_E N) (codeAt (bodyOf Try.f108) [1, 1, 1]) ⟨[(0, .pv (.int .i64) v1), (2, .ref 2 0), (3, .pv (.int .u64) v2)], [(2, .box [.pv .bool false, .nils])], []⟩ (kEnd (spec_WholeOf_E N) [] Try.f108.results.toList [(.pair .bool (.pair (.list (.int .u32)) .unit))]))
theorem spec_WholeOf_t0 (N : Nat) (v1 : Int) (v2 : Int) : spec_WholeOf_e0 N v1 v2 = spec_WholeOf_j0 N v1 v2 := by
  exact (congrArg (gate N) (show evC (spec_WholeOf_E N) (codeAt (bodyOf Try.f108) [1, 1, 1]) ⟨[(0, .pv (.int .i64) v1), (2, .ref 2 0), (3, .pv (.int .u64) v2)], [(2, .box [.pv .bool false, .nils])], []⟩ (kEnd (spec_WholeOf_E N) [] Try.f108.results.toList [(.pair .bool (.pair (.list (.int .u32)) .unit))]) = spec_WholeOf_g0 N v1 v2 from by kernel_rfl)).trans (by rfl)
theorem spec_WholeOf_t (N : Nat) (v1 : Int) : evF (spec_WholeOf_E N) [] Try.f108 [.k (.int .i64)] [(.pair .bool (.pair (.list (.int .u32)) .unit))] (v1, ()) = spec_WholeOf N v1 := by
  have h0 : (spec_WholeOf_e0 N) = (spec_WholeOf_j0 N) := by funext v1 v2; exact spec_WholeOf_t0 N v1 v2
  exact (show evF (spec_WholeOf_E N) [] Try.f108 [.k (.int .i64)] [(.pair .bool (.pair (.list (.int .u32)) .unit))] (v1, ()) = spec_WholeOf_g N v1 (spec_WholeOf_e0 N) from by kernel_rfl).trans (by rw [h0]; rfl)
noncomputable def spec_WholeOf_con (N : Nat) : Con := ⟨108, [.k (.int .i64)], [(.pair .bool (.pair (.list (.int .u32)) .unit))], fun x => spec_WholeOf N x.1⟩
theorem spec_WholeOf_s (N : Nat) : (spec_WholeOf_con N).Sound Try.prog :=
  Con.sound_of (c := spec_WholeOf_con N) (E := (spec_WholeOf_E N)) (idle := []) Try.func108 (by kernel_rfl) (by kernel_rfl) ⟨(allCons (spec_trim_s N) allNil), allNil⟩ allNil (fun x y h => (spec_WholeOf_t N x.1).trans h)
/-- pub-orthodrome/spec.DyadicOf -/
noncomputable def spec_DyadicOf_E (N : Nat) : Env := ⟨Try.prog, N, [math_Float64bits_con N, spec_WholeOf_con N], [(0, ⟨[], [], [0], [], none⟩), (1, ⟨[], [], [0, 2], [2], none⟩), (2, ⟨[], [], [2, 3], [2], none⟩), (3, ⟨[], [], [2, 3, 4, 5], [2], none⟩), (5, ⟨[], [], [2, 3, 4, 5, 15], [2], none⟩), (6, ⟨[], [], [2, 3, 4, 5, 15, 18], [2], none⟩), (8, ⟨[], [], [2, 3, 4, 5, 21], [2], none⟩), (9, ⟨[], [], [2, 3, 4, 5], [2], some N⟩), (10, ⟨[], [], [2, 4, 5, 25], [2], none⟩), (11, ⟨[], [], [2, 4, 5], [2], some N⟩)], kdL [], []⟩
def spec_DyadicOf_g1 (N : Nat) (v4 : Int) (v5 : Int) : Option (((Bool × ((List Int) × Unit)) × (Int × Unit))) :=
  (spec_WholeOf N v5).bind fun v6 => (some ((v6.1, v6.2.1, ()), (IntKind.i64.wrap (v4 - 1075)), ()))
def spec_DyadicOf_j1 (N : Nat) (v4 : Int) (v5 : Int) : Option (((Bool × ((List Int) × Unit)) × (Int × Unit))) :=
  gate N (spec_DyadicOf_g1 N v4 v5)
def spec_DyadicOf_g0 (N : Nat) (v2 : Int) (c1 : Int → Int → Option (((Bool × ((List Int) × Unit)) × (Int × Unit)))) (v3 : Int) (v4 : Int) : Option (((Bool × ((List Int) × Unit)) × (Int × Unit))) :=
  (bif ((Int.fdiv v2 (2 ^ (min (63 : Int).toNat (IntKind.bits .u64)))) == 1) then (c1 v4 (IntKind.i64.wrap (0 - v3))) else (c1 v4 v3))
def spec_DyadicOf_j0 (N : Nat) (v2 : Int) (v3 : Int) (v4 : Int) : Option (((Bool × ((List Int) × Unit)) × (Int × Unit))) :=
  gate N (spec_DyadicOf_g0 N v2 (spec_DyadicOf_j1 N) v3 v4)
def spec_DyadicOf_g (N : Nat) (v1 : Nat) (c0 : Int → Int → Int → Option (((Bool × ((List Int) × Unit)) × (Int × Unit)))) : Option (((Bool × ((List Int) × Unit)) × (Int × Unit))) :=
  ((math_Float64bits N v1).bind fun v2 => (bif ((IntKind.i64.wrap (bits .and .u64 (Int.fdiv v2 (2 ^ (min (52 : Int).toNat (IntKind.bits .u64)))) 2047)) == 2047) then (some ((false, ([] : List Int), ()), 0, ())) else (bif ((IntKind.i64.wrap (bits .and .u64 (Int.fdiv v2 (2 ^ (min (52 : Int).toNat (IntKind.bits .u64)))) 2047)) == 0) then (c0 v2 (IntKind.i64.wrap (bits .and .u64 v2 4503599627370495)) 1) else (c0 v2 (IntKind.i64.wrap ((IntKind.i64.wrap (bits .and .u64 v2 4503599627370495)) + 4503599627370496)) (IntKind.i64.wrap (bits .and .u64 (Int.fdiv v2 (2 ^ (min (52 : Int).toNat (IntKind.bits .u64)))) 2047))))))
def spec_DyadicOf (N : Nat) (v1 : Nat) : Option (((Bool × ((List Int) × Unit)) × (Int × Unit))) :=
  spec_DyadicOf_g N v1 (spec_DyadicOf_j0 N)
set_option maxRecDepth 100000
noncomputable def spec_DyadicOf_e1 (N : Nat) (v4 : Int) (v5 : Int) : Option (HR [(.pair (.pair .bool (.pair (.list (.int .u32)) .unit)) (.pair (.int .i64) .unit))]) :=
  gate N (evC (spec_DyadicOf_E N) (codeAt (bodyOf Try.f101) [1, 1, 1, 1, 1]) ⟨[(2, .ref 2 0), (4, .pv (.int .i64) v5), (5, .pv (.int .i64) v4)], [(2, .box [.pv .bool false, .nils, .pv (.int .i64) 0])], []⟩ (kEnd (spec_DyadicOf_E N) [] Try.f101.results.toList [(.pair (.pair .bool (.pair (.list (.int .u32)) .unit)) (.pair (.int .i64) .unit))]))
noncomputable def spec_DyadicOf_e0 (N : Nat) (v2 : Int) (v3 : Int) (v4 : Int) : Option (HR [(.pair (.pair .bool (.pair (.list (.int .u32)) .unit)) (.pair (.int .i64) .unit))]) :=
  gate N (evC (spec_DyadicOf_E N) (codeAt (bodyOf Try.f101) [1, 1, 1, 1]) ⟨[(2, .ref 2 0), (3, .pv (.int .u64) v2), (4, .pv (.int .i64) v3), (5, .pv (.int .i64) v4)], [(2, .box [.pv .bool false, .nils, .pv (.int .i64) 0])], []⟩ (kEnd (spec_DyadicOf_E N) [] Try.f101.results.toList [(.pair (.pair .bool (.pair (.list (.int .u32)) .unit)) (.pair (.int .i64) .unit))]))
theorem spec_DyadicOf_t1 (N : Nat) (v4 : Int) (v5 : Int) : spec_DyadicOf_e1 N v4 v5 = spec_DyadicOf_j1 N v4 v5 := by
  exact (congrArg (gate N) (show evC (spec_DyadicOf_E N) (codeAt (bodyOf Try.f101) [1, 1, 1, 1, 1]) ⟨[(2, .ref 2 0), (4, .pv (.int .i64) v5), (5, .pv (.int .i64) v4)], [(2, .box [.pv .bool false, .nils, .pv (.int .i64) 0])], []⟩ (kEnd (spec_DyadicOf_E N) [] Try.f101.results.toList [(.pair (.pair .bool (.pair (.list (.int .u32)) .unit)) (.pair (.int .i64) .unit))]) = spec_DyadicOf_g1 N v4 v5 from by kernel_rfl)).trans (by rfl)
theorem spec_DyadicOf_t0 (N : Nat) (v2 : Int) (v3 : Int) (v4 : Int) : spec_DyadicOf_e0 N v2 v3 v4 = spec_DyadicOf_j0 N v2 v3 v4 := by
  have h1 : (spec_DyadicOf_e1 N) = (spec_DyadicOf_j1 N) := by funext v4 v5; exact spec_DyadicOf_t1 N v4 v5
  exact (congrArg (gate N) (show evC (spec_DyadicOf_E N) (codeAt (bodyOf Try.f101) [1, 1, 1, 1]) ⟨[(2, .ref 2 0), (3, .pv (.int .u64) v2), (4, .pv (.int .i64) v3), (5, .pv (.int .i64) v4)], [(2, .box [.pv .bool false, .nils, .pv (.int .i64) 0])], []⟩ (kEnd (spec_DyadicOf_E N) [] Try.f101.results.toList [(.pair (.pair .bool (.pair (.list (.int .u32)) .unit)) (.pair (.int .i64) .unit))]) = spec_DyadicOf_g0 N v2 (spec_DyadicOf_e1 N) v3 v4 from by kernel_rfl)).trans (by rw [h1]; rfl)
theorem spec_DyadicOf_t (N : Nat) (v1 : Nat) : evF (spec_DyadicOf_E N) [] Try.f101 [.k .float] [(.pair (.pair .bool (.pair (.list (.int .u32)) .unit)) (.pair (.int .i64) .unit))] (v1, ()) = spec_DyadicOf N v1 := by
  have h0 : (spec_DyadicOf_e0 N) = (spec_DyadicOf_j0 N) := by funext v2 v3 v4; exact spec_DyadicOf_t0 N v2 v3 v4
  exact (show evF (spec_DyadicOf_E N) [] Try.f101 [.k .float] [(.pair (.pair .bool (.pair (.list (.int .u32)) .unit)) (.pair (.int .i64) .unit))] (v1, ()) = spec_DyadicOf_g N v1 (spec_DyadicOf_e0 N) from by kernel_rfl).trans (by rw [h0]; rfl)
noncomputable def spec_DyadicOf_con (N : Nat) : Con := ⟨101, [.k .float], [(.pair (.pair .bool (.pair (.list (.int .u32)) .unit)) (.pair (.int .i64) .unit))], fun x => spec_DyadicOf N x.1⟩
theorem spec_DyadicOf_s (N : Nat) : (spec_DyadicOf_con N).Sound Try.prog :=
  Con.sound_of (c := spec_DyadicOf_con N) (E := (spec_DyadicOf_E N)) (idle := []) Try.func101 (by kernel_rfl) (by kernel_rfl) ⟨(allCons (math_Float64bits_s N) (allCons (spec_WholeOf_s N) allNil)), allNil⟩ allNil (fun x y h => (spec_DyadicOf_t N x.1).trans h)
/-- pub-orthodrome/spec.PointOf -/
noncomputable def spec_PointOf_E (N : Nat) : Env := ⟨Try.prog, N, [spec_DyadicOf_con N], [(0, ⟨[], [], [0, 1], [], none⟩), (1, ⟨[], [], [0, 1, 4], [4], none⟩)], kdL [], []⟩
def spec_PointOf_g (N : Nat) (v1 : Nat) (v2 : Nat) : Option ((((Bool × ((List Int) × Unit)) × (Int × Unit)) × (((Bool × ((List Int) × Unit)) × (Int × Unit)) × Unit))) :=
  ((spec_DyadicOf N v1).bind fun v3 => (spec_DyadicOf N v2).bind fun v4 => (some (((v3.1.1, v3.1.2.1, ()), v3.2.1, ()), ((v4.1.1, v4.1.2.1, ()), v4.2.1, ()), ())))
def spec_PointOf (N : Nat) (v1 : Nat) (v2 : Nat) : Option ((((Bool × ((List Int) × Unit)) × (Int × Unit)) × (((Bool × ((List Int) × Unit)) × (Int × Unit)) × Unit))) :=
  spec_PointOf_g N v1 v2
set_option maxRecDepth 100000
theorem spec_PointOf_t (N : Nat) (v1 : Nat) (v2 : Nat) : evF (spec_PointOf_E N) [] Try.f82 [.k .float, .k .float] [(.pair (.pair (.pair .bool (.pair (.list (.int .u32)) .unit)) (.pair (.int .i64) .unit)) (.pair (.pair (.pair .bool (.pair (.list (.int .u32)) .unit)) (.pair (.int .i64) .unit)) .unit))] (v1, v2, ()) = spec_PointOf N v1 v2 := by
  exact (show evF (spec_PointOf_E N) [] Try.f82 [.k .float, .k .float] [(.pair (.pair (.pair .bool (.pair (.list (.int .u32)) .unit)) (.pair (.int .i64) .unit)) (.pair (.pair (.pair .bool (.pair (.list (.int .u32)) .unit)) (.pair (.int .i64) .unit)) .unit))] (v1, v2, ()) = spec_PointOf_g N v1 v2 from by kernel_rfl).trans (by rfl)
noncomputable def spec_PointOf_con (N : Nat) : Con := ⟨82, [.k .float, .k .float], [(.pair (.pair (.pair .bool (.pair (.list (.int .u32)) .unit)) (.pair (.int .i64) .unit)) (.pair (.pair (.pair .bool (.pair (.list (.int .u32)) .unit)) (.pair (.int .i64) .unit)) .unit))], fun x => spec_PointOf N x.1 x.2.1⟩
theorem spec_PointOf_s (N : Nat) : (spec_PointOf_con N).Sound Try.prog :=
  Con.sound_of (c := spec_PointOf_con N) (E := (spec_PointOf_E N)) (idle := []) Try.func82 (by kernel_rfl) (by kernel_rfl) ⟨(allCons (spec_DyadicOf_s N) allNil), allNil⟩ allNil (fun x y h => (spec_PointOf_t N x.1 x.2.1).trans h)
/-- pub-orthodrome/laws.exactly -/
noncomputable def laws_exactly_E (N : Nat) : Env := ⟨Try.prog, N, [spec_PointOf_con N], [(0, ⟨[], [], [0], [], none⟩), (1, ⟨[], [], [1, 2], [1, 2], none⟩)], kdL [], []⟩
def laws_exactly_g (N : Nat) (v1 : (Nat × (Nat × Unit))) : Option ((((Bool × ((List Int) × Unit)) × (Int × Unit)) × (((Bool × ((List Int) × Unit)) × (Int × Unit)) × Unit))) :=
  ((spec_PointOf N v1.1 v1.2.1).bind fun v2 => (some (((v2.1.1.1, v2.1.1.2.1, ()), v2.1.2.1, ()), ((v2.2.1.1.1, v2.2.1.1.2.1, ()), v2.2.1.2.1, ()), ())))
def laws_exactly (N : Nat) (v1 : (Nat × (Nat × Unit))) : Option ((((Bool × ((List Int) × Unit)) × (Int × Unit)) × (((Bool × ((List Int) × Unit)) × (Int × Unit)) × Unit))) :=
  laws_exactly_g N v1
set_option maxRecDepth 100000
theorem laws_exactly_t (N : Nat) (v1 : (Nat × (Nat × Unit))) : evF (laws_exactly_E N) [] Try.f40 [.k (.pair .float (.pair .float .unit))] [(.pair (.pair (.pair .bool (.pair (.list (.int .u32)) .unit)) (.pair (.int .i64) .unit)) (.pair (.pair (.pair .bool (.pair (.list (.int .u32)) .unit)) (.pair (.int .i64) .unit)) .unit))] (v1, ()) = laws_exactly N v1 := by
  exact (show evF (laws_exactly_E N) [] Try.f40 [.k (.pair .float (.pair .float .unit))] [(.pair (.pair (.pair .bool (.pair (.list (.int .u32)) .unit)) (.pair (.int .i64) .unit)) (.pair (.pair (.pair .bool (.pair (.list (.int .u32)) .unit)) (.pair (.int .i64) .unit)) .unit))] (v1, ()) = laws_exactly_g N v1 from by kernel_rfl).trans (by rfl)
noncomputable def laws_exactly_con (N : Nat) : Con := ⟨40, [.k (.pair .float (.pair .float .unit))], [(.pair (.pair (.pair .bool (.pair (.list (.int .u32)) .unit)) (.pair (.int .i64) .unit)) (.pair (.pair (.pair .bool (.pair (.list (.int .u32)) .unit)) (.pair (.int .i64) .unit)) .unit))], fun x => laws_exactly N x.1⟩
theorem laws_exactly_s (N : Nat) : (laws_exactly_con N).Sound Try.prog :=
  Con.sound_of (c := laws_exactly_con N) (E := (laws_exactly_E N)) (idle := []) Try.func40 (by kernel_rfl) (by kernel_rfl) ⟨(allCons (spec_PointOf_s N) allNil), allNil⟩ allNil (fun x y h => (laws_exactly_t N x.1).trans h)
/-- (pub-orthodrome/spec.Whole).Minus -/
noncomputable def spec_Whole_Minus_E (N : Nat) : Env := ⟨Try.prog, N, [], [(0, ⟨[], [], [0], [], none⟩), (1, ⟨[], [], [1, 2], [1, 2], none⟩)], kdL [], []⟩
def spec_Whole_Minus_g (N : Nat) (v1 : (Bool × ((List Int) × Unit))) : Option ((Bool × ((List Int) × Unit))) :=
  (bif (!v1.1) then (some ((decide (((v1.2.1.length : Int) : Int) > 0)), v1.2.1, ())) else (some (false, v1.2.1, ())))
def spec_Whole_Minus (N : Nat) (v1 : (Bool × ((List Int) × Unit))) : Option ((Bool × ((List Int) × Unit))) :=
  spec_Whole_Minus_g N v1
set_option maxRecDepth 100000
theorem spec_Whole_Minus_t (N : Nat) (v1 : (Bool × ((List Int) × Unit))) : evF (spec_Whole_Minus_E N) [] Try.f126 [.k (.pair .bool (.pair (.list (.int .u32)) .unit))] [(.pair .bool (.pair (.list (.int .u32)) .unit))] (v1, ()) = spec_Whole_Minus N v1 := by
  exact (show evF (spec_Whole_Minus_E N) [] Try.f126 [.k (.pair .bool (.pair (.list (.int .u32)) .unit))] [(.pair .bool (.pair (.list (.int .u32)) .unit))] (v1, ()) = spec_Whole_Minus_g N v1 from by kernel_rfl).trans (by rfl)
noncomputable def spec_Whole_Minus_con (N : Nat) : Con := ⟨126, [.k (.pair .bool (.pair (.list (.int .u32)) .unit))], [(.pair .bool (.pair (.list (.int .u32)) .unit))], fun x => spec_Whole_Minus N x.1⟩
theorem spec_Whole_Minus_s (N : Nat) : (spec_Whole_Minus_con N).Sound Try.prog :=
  Con.sound_of (c := spec_Whole_Minus_con N) (E := (spec_Whole_Minus_E N)) (idle := []) Try.func126 (by kernel_rfl) (by kernel_rfl) ⟨allNil, allNil⟩ allNil (fun x y h => (spec_Whole_Minus_t N x.1).trans h)
/-- (pub-orthodrome/spec.Dyadic).Minus -/
noncomputable def spec_Dyadic_Minus_E (N : Nat) : Env := ⟨Try.prog, N, [spec_Whole_Minus_con N], [(0, ⟨[], [], [0], [], none⟩), (1, ⟨[], [], [1, 2], [1, 2], none⟩)], kdL [], []⟩
def spec_Dyadic_Minus_g (N : Nat) (v1 : ((Bool × ((List Int) × Unit)) × (Int × Unit))) : Option (((Bool × ((List Int) × Unit)) × (Int × Unit))) :=
  ((spec_Whole_Minus N (v1.1.1, v1.1.2.1, ())).bind fun v2 => (some ((v2.1, v2.2.1, ()), v1.2.1, ())))
def spec_Dyadic_Minus (N : Nat) (v1 : ((Bool × ((List Int) × Unit)) × (Int × Unit))) : Option (((Bool × ((List Int) × Unit)) × (Int × Unit))) :=
  spec_Dyadic_Minus_g N v1
set_option maxRecDepth 100000
theorem spec_Dyadic_Minus_t (N : Nat) (v1 : ((Bool × ((List Int) × Unit)) × (Int × Unit))) : evF (spec_Dyadic_Minus_E N) [] Try.f116 [.k (.pair (.pair .bool (.pair (.list (.int .u32)) .unit)) (.pair (.int .i64) .unit))] [(.pair (.pair .bool (.pair (.list (.int .u32)) .unit)) (.pair (.int .i64) .unit))] (v1, ()) = spec_Dyadic_Minus N v1 := by
  exact (show evF (spec_Dyadic_Minus_E N) [] Try.f116 [.k (.pair (.pair .bool (.pair (.list (.int .u32)) .unit)) (.pair (.int .i64) .unit))] [(.pair (.pair .bool (.pair (.list (.int .u32)) .unit)) (.pair (.int .i64) .unit))] (v1, ()) = spec_Dyadic_Minus_g N v1 from by kernel_rfl).trans (by rfl)
noncomputable def spec_Dyadic_Minus_con (N : Nat) : Con := ⟨116, [.k (.pair (.pair .bool (.pair (.list (.int .u32)) .unit)) (.pair (.int .i64) .unit))], [(.pair (.pair .bool (.pair (.list (.int .u32)) .unit)) (.pair (.int .i64) .unit))], fun x => spec_Dyadic_Minus N x.1⟩
theorem spec_Dyadic_Minus_s (N : Nat) : (spec_Dyadic_Minus_con N).Sound Try.prog :=
  Con.sound_of (c := spec_Dyadic_Minus_con N) (E := (spec_Dyadic_Minus_E N)) (idle := []) Try.func116 (by kernel_rfl) (by kernel_rfl) ⟨(allCons (spec_Whole_Minus_s N) allNil), allNil⟩ allNil (fun x y h => (spec_Dyadic_Minus_t N x.1).trans h)
/-- (pub-orthodrome/spec.Whole).Sign -/
noncomputable def spec_Whole_Sign_E (N : Nat) : Env := ⟨Try.prog, N, [], [(0, ⟨[], [], [0], [], none⟩), (1, ⟨[], [], [1], [1], none⟩), (2, ⟨[], [], [1, 3], [1], none⟩), (4, ⟨[], [], [8], [], none⟩), (5, ⟨[], [], [], [], none⟩)], kdL [], []⟩
def spec_Whole_Sign_g (N : Nat) (v1 : (Bool × ((List Int) × Unit))) : Option (Int) :=
  (bif ((v1.2.1.length : Int) == 0) then (some 0) else (bif v1.1 then (some (-1)) else (some 1)))
def spec_Whole_Sign (N : Nat) (v1 : (Bool × ((List Int) × Unit))) : Option (Int) :=
  spec_Whole_Sign_g N v1
set_option maxRecDepth 100000
theorem spec_Whole_Sign_t (N : Nat) (v1 : (Bool × ((List Int) × Unit))) : evF (spec_Whole_Sign_E N) [] Try.f102 [.k (.pair .bool (.pair (.list (.int .u32)) .unit))] [(.int .i64)] (v1, ()) = spec_Whole_Sign N v1 := by
  exact (show evF (spec_Whole_Sign_E N) [] Try.f102 [.k (.pair .bool (.pair (.list (.int .u32)) .unit))] [(.int .i64)] (v1, ()) = spec_Whole_Sign_g N v1 from by kernel_rfl).trans (by rfl)
noncomputable def spec_Whole_Sign_con (N : Nat) : Con := ⟨102, [.k (.pair .bool (.pair (.list (.int .u32)) .unit))], [(.int .i64)], fun x => spec_Whole_Sign N x.1⟩
theorem spec_Whole_Sign_s (N : Nat) : (spec_Whole_Sign_con N).Sound Try.prog :=
  Con.sound_of (c := spec_Whole_Sign_con N) (E := (spec_Whole_Sign_E N)) (idle := []) Try.func102 (by kernel_rfl) (by kernel_rfl) ⟨allNil, allNil⟩ allNil (fun x y h => (spec_Whole_Sign_t N x.1).trans h)
/-- (pub-orthodrome/spec.Dyadic).Sign -/
noncomputable def spec_Dyadic_Sign_E (N : Nat) : Env := ⟨Try.prog, N, [spec_Whole_Sign_con N], [(0, ⟨[], [], [0], [], none⟩), (1, ⟨[], [], [1], [1], none⟩)], kdL [], []⟩
def spec_Dyadic_Sign_g (N : Nat) (v1 : ((Bool × ((List Int) × Unit)) × (Int × Unit))) : Option (Int) :=
  ((spec_Whole_Sign N (v1.1.1, v1.1.2.1, ())).bind fun v2 => (some v2))
def spec_Dyadic_Sign (N : Nat) (v1 : ((Bool × ((List Int) × Unit)) × (Int × Unit))) : Option (Int) :=
  spec_Dyadic_Sign_g N v1
set_option maxRecDepth 100000
theorem spec_Dyadic_Sign_t (N : Nat) (v1 : ((Bool × ((List Int) × Unit)) × (Int × Unit))) : evF (spec_Dyadic_Sign_E N) [] Try.f68 [.k (.pair (.pair .bool (.pair (.list (.int .u32)) .unit)) (.pair (.int .i64) .unit))] [(.int .i64)] (v1, ()) = spec_Dyadic_Sign N v1 := by
  exact (show evF (spec_Dyadic_Sign_E N) [] Try.f68 [.k (.pair (.pair .bool (.pair (.list (.int .u32)) .unit)) (.pair (.int .i64) .unit))] [(.int .i64)] (v1, ()) = spec_Dyadic_Sign_g N v1 from by kernel_rfl).trans (by rfl)
noncomputable def spec_Dyadic_Sign_con (N : Nat) : Con := ⟨68, [.k (.pair (.pair .bool (.pair (.list (.int .u32)) .unit)) (.pair (.int .i64) .unit))], [(.int .i64)], fun x => spec_Dyadic_Sign N x.1⟩
theorem spec_Dyadic_Sign_s (N : Nat) : (spec_Dyadic_Sign_con N).Sound Try.prog :=
  Con.sound_of (c := spec_Dyadic_Sign_con N) (E := (spec_Dyadic_Sign_E N)) (idle := []) Try.func68 (by kernel_rfl) (by kernel_rfl) ⟨(allCons (spec_Whole_Sign_s N) allNil), allNil⟩ allNil (fun x y h => (spec_Dyadic_Sign_t N x.1).trans h)
/-- pub-orthodrome/spec.trim -/
noncomputable def spec_trim_b_E (N : Nat) : Env := ⟨Try.prog, N, [], [(0, ⟨[], [], [0], [], none⟩), (1, ⟨[], [], [0], [], none⟩), (2, ⟨[], [], [0], [], none⟩), (3, ⟨[], [], [0], [], some N⟩)], kdL [], []⟩
def spec_trim_b_g1 (N : Nat) (v4 : (List Int)) : Option (((List Int) × Unit)) :=
  (some (v4, ()))
def spec_trim_b_j1 (N : Nat) (v4 : (List Int)) : Option (((List Int) × Unit)) :=
  gate N (spec_trim_b_g1 N v4)
def spec_trim_b_g0 (N : Nat) (c1 : (List Int) → Option (((List Int) × Unit))) (r0 : (List Int) → Option (((List Int) × Unit))) (v4 : (List Int)) : Option (((List Int) × Unit)) :=
  bif (decide (((v4.length : Int) : Int) > 0)) then ((nth v4 (IntKind.i64.wrap ((v4.length : Int) - 1))).bind fun v5 => (bif (v5 == 0) then ((chk2 0 (IntKind.i64.wrap ((v4.length : Int) - 1)) v4.length).bind fun v6 => (r0 ((v4.drop v6.1).take (v6.2 - v6.1)))) else (c1 v4))) else (c1 v4)
def spec_trim_b_l0 (N : Nat) : Nat → (List Int) → Option (((List Int) × Unit))
  | 0, _ => none
  | n + 1, v4 => spec_trim_b_g0 N (spec_trim_b_j1 N) (spec_trim_b_l0 N n) v4
def spec_trim_b_g (N : Nat) (v1 : (List Int)) (c0 : (List Int) → Option (((List Int) × Unit))) : Option (((List Int) × Unit)) :=
  ((c0 v1))
def spec_trim_b (N : Nat) (v1 : (List Int)) : Option (((List Int) × Unit)) :=
  spec_trim_b_g N v1 (spec_trim_b_l0 N N)
set_option maxRecDepth 100000
noncomputable def spec_trim_b_e1 (N : Nat) (v4 : (List Int)) : Option (AltD [⟨[.k (.list (.int .u32))], [none]⟩]) :=
  gate N (evC (spec_trim_b_E N) (codeAt (bodyOf Try.f124) [1, 1]) ⟨[(0, .pv (.list (.int .u32)) v4)], [], []⟩ (kEnd2 (spec_trim_b_E N) [] Try.f124.results.toList [⟨[.k (.list (.int .u32))], [none]⟩] [.dead]))
noncomputable def spec_trim_b_e0 (N : Nat) (n : Nat) (v4 : (List Int)) : Option (AltD [⟨[.k (.list (.int .u32))], [none]⟩]) :=
  loopN (advOf (spec_trim_b_E N) (codeAt (bodyOf Try.f124) [1, 0, 0, 0])) (evC (spec_trim_b_E N) (codeAt (bodyOf Try.f124) [1, 0, 0, 0])) n ⟨[(0, .pv (.list (.int .u32)) v4)], [], []⟩ (kBlock 0 (kSeq (advOf (spec_trim_b_E N) (codeAt (bodyOf Try.f124) [1, 1])) (evC (spec_trim_b_E N) (codeAt (bodyOf Try.f124) [1, 1])) (kEnd2 (spec_trim_b_E N) [] Try.f124.results.toList [⟨[.k (.list (.int .u32))], [none]⟩] [.dead])))
theorem spec_trim_b_t1 (N : Nat) (v4 : (List Int)) : spec_trim_b_e1 N v4 = spec_trim_b_j1 N v4 := by
  exact (congrArg (gate N) (show evC (spec_trim_b_E N) (codeAt (bodyOf Try.f124) [1, 1]) ⟨[(0, .pv (.list (.int .u32)) v4)], [], []⟩ (kEnd2 (spec_trim_b_E N) [] Try.f124.results.toList [⟨[.k (.list (.int .u32))], [none]⟩] [.dead]) = spec_trim_b_g1 N v4 from by kernel_rfl)).trans (by rfl)
theorem spec_trim_b_t0 (N : Nat) : ∀ (n : Nat) (v4 : (List Int)), spec_trim_b_e0 N n v4 = spec_trim_b_l0 N n v4
  | 0, _ => rfl
  | n + 1, v4 => by
    have h1 : (spec_trim_b_e1 N) = (spec_trim_b_j1 N) := by funext v4; exact spec_trim_b_t1 N v4
    have h : spec_trim_b_e0 N n = spec_trim_b_l0 N n := by funext v4; exact spec_trim_b_t0 N n v4
    exact (show spec_trim_b_e0 N (n + 1) v4 = spec_trim_b_g0 N (spec_trim_b_e1 N) (spec_trim_b_e0 N n) v4 from by kernel_rfl).trans (by rw [h1, h]; rfl)
theorem spec_trim_b_t (N : Nat) (v1 : (List Int)) : evF2 (spec_trim_b_E N) [] Try.f124 [.k (.list (.int .u32))] [⟨[.k (.list (.int .u32))], [none]⟩] (v1, ()) = spec_trim_b N v1 := by
  have h0 : (spec_trim_b_e0 N N) = (spec_trim_b_l0 N N) := by funext v4; exact spec_trim_b_t0 N N v4
  exact (show evF2 (spec_trim_b_E N) [] Try.f124 [.k (.list (.int .u32))] [⟨[.k (.list (.int .u32))], [none]⟩] (v1, ()) = spec_trim_b_g N v1 (spec_trim_b_e0 N N) from by kernel_rfl).trans (by rw [h0]; rfl)
noncomputable def spec_trim_b_con (N : Nat) : Con2 := ⟨124, [.k (.list (.int .u32))], [⟨[.k (.list (.int .u32))], [none]⟩], fun x => spec_trim_b N x.1⟩
theorem spec_trim_b_s (N : Nat) : (spec_trim_b_con N).Sound Try.prog :=
  Con2.sound_of (c := spec_trim_b_con N) (E := (spec_trim_b_E N)) (idle := []) Try.func124 (by kernel_rfl) (by kernel_rfl) ⟨allNil, allNil⟩ allNil (fun x y h => (spec_trim_b_t N x.1).trans h)
/-- (pub-orthodrome/spec.Whole).Up -/
noncomputable def spec_Whole_Up_E (N : Nat) : Env := ⟨Try.prog, N, [], [(0, ⟨[], [], [0, 1], [], none⟩), (1, ⟨[], [], [1, 2, 4], [2, 4], none⟩), (2, ⟨[], [], [1, 2, 4, 13], [2, 4], none⟩), (3, ⟨[], [], [1, 2, 4], [2, 4], none⟩), (4, ⟨[], [], [1, 2, 4, 5], [2, 4, 24], none⟩), (5, ⟨[], [], [1, 2, 4, 5, 6], [2, 4, 24], none⟩), (6, ⟨[(5, 129, (.int .u32), 90600)], [], [1, 2, 4, 5, 6, 26, 27, 28], [2, 4, 90600], none⟩), (7, ⟨[], [], [1, 2, 4, 5, 6, 26, 27, 28], [2, 4, 90600], none⟩), (8, ⟨[], [], [1, 2, 4, 5, 6, 8, 26, 27, 28], [2, 4, 90600], none⟩), (9, ⟨[], [], [1, 2, 4, 5, 6, 9, 26, 27, 28], [2, 4, 90600], none⟩), (10, ⟨[], [], [1, 2, 4, 5, 9, 26, 27, 28], [2, 4, 43], none⟩), (11, ⟨[], [], [1, 2, 4, 5, 6, 26, 27, 28], [2, 4, 43], none⟩), (12, ⟨[], [], [2, 4, 5, 6], [2, 4, 90600], none⟩)], kdL [(129, (.int .u32))], [spec_trim_b_con N]⟩
def spec_Whole_Up_g0 (N : Nat) (v2 : Int) (v1 : (Bool × ((List Int) × Unit))) (r0 : Int → Int → (List Int) → Option ((Bool × ((List Int) × Unit)))) (v5 : Int) (v6 : Int) (v7 : (List Int)) : Option ((Bool × ((List Int) × Unit))) :=
  (bif (decide ((v6 : Int) < (v1.2.1.length : Int))) then ((nth v1.2.1 v6).bind fun v8 => (if ((Int.tmod v2 32) : Int) < 0 then none else ((lim ((v7.length + ([(bits .or .u32 (IntKind.u32.wrap (IntKind.u64.wrap ((IntKind.u64.wrap v8) * 2 ^ (min ((Int.tmod v2 32) : Int).toNat (IntKind.bits .u64))))) v5)] : List Int).length) * 4)).bind fun _ => ((r0 (IntKind.u32.wrap (Int.fdiv (IntKind.u64.wrap ((IntKind.u64.wrap v8) * 2 ^ (min ((Int.tmod v2 32) : Int).toNat (IntKind.bits .u64)))) (2 ^ (min (32 : Int).toNat (IntKind.bits .u64))))) (IntKind.i64.wrap (v6 + 1)) (v7 ++ ([(bits .or .u32 (IntKind.u32.wrap (IntKind.u64.wrap ((IntKind.u64.wrap v8) * 2 ^ (min ((Int.tmod v2 32) : Int).toNat (IntKind.bits .u64))))) v5)] : List Int))))))) else ((lim ((v7.length + ([v5] : List Int).length) * 4)).bind fun _ => (spec_trim_b N (v7 ++ ([v5] : List Int))).bind fun v9 => (some (v1.1, v9.1, ()))))
def spec_Whole_Up_l0 (N : Nat) : Nat → Int → (Bool × ((List Int) × Unit)) → Int → Int → (List Int) → Option ((Bool × ((List Int) × Unit)))
  | 0, _, _, _, _, _ => none
  | n + 1, v2, v1, v5, v6, v7 => spec_Whole_Up_g0 N v2 v1 (spec_Whole_Up_l0 N n v2 v1) v5 v6 v7
def spec_Whole_Up_g (N : Nat) (v1 : (Bool × ((List Int) × Unit))) (v2 : Int) (c0 : Int → (Bool × ((List Int) × Unit)) → Int → Int → (List Int) → Option ((Bool × ((List Int) × Unit)))) : Option ((Bool × ((List Int) × Unit))) :=
  (bif ((v1.2.1.length : Int) == 0) then (some (v1.1, v1.2.1, ())) else ((mkn (IntKind.i64.wrap (Int.tdiv v2 32)) (IntKind.i64.wrap ((IntKind.i64.wrap ((IntKind.i64.wrap (Int.tdiv v2 32)) + (v1.2.1.length : Int))) + 1)) 4).bind fun v3 => ((c0 v2 v1 0 0 (List.replicate v3 (0 : Int))))))
def spec_Whole_Up (N : Nat) (v1 : (Bool × ((List Int) × Unit))) (v2 : Int) : Option ((Bool × ((List Int) × Unit))) :=
  spec_Whole_Up_g N v1 v2 (spec_Whole_Up_l0 N N)
set_option maxRecDepth 100000
noncomputable def spec_Whole_Up_e0 (N : Nat) (n : Nat) (v2 : Int) (v1 : (Bool × ((List Int) × Unit))) (v5 : Int) (v6 : Int) (v7 : (List Int)) : Option (HR [(.pair .bool (.pair (.list (.int .u32)) .unit))]) :=
  loopN (advOf (spec_Whole_Up_E N) (codeAt (bodyOf Try.f117) [1, 1, 1, 1, 0, 1, 0, 0])) (evC (spec_Whole_Up_E N) (codeAt (bodyOf Try.f117) [1, 1, 1, 1, 0, 1, 0, 0])) n ⟨[(1, .pv (.int .i64) v2), (2, .ref 2 0), (4, .ref 4 0), (5, .own (.int .u32) 90600), (6, .pv (.int .u32) v5), (26, .pv (.list (.int .u32)) v1.2.1), (27, .pv (.int .i64) (v1.2.1.length : Int)), (28, .pv (.int .i64) v6)], [(2, .box [.pv .bool v1.1, .pv (.list (.int .u32)) v1.2.1]), (4, .box [.pv .bool false, .nils]), (90600, .arr 129 (.int .u32) v7)], []⟩ (kBlock 0 (kSeq (advOf (spec_Whole_Up_E N) (codeAt (bodyOf Try.f117) [1, 1, 1, 1, 1])) (evC (spec_Whole_Up_E N) (codeAt (bodyOf Try.f117) [1, 1, 1, 1, 1])) (kEnd (spec_Whole_Up_E N) [] Try.f117.results.toList [(.pair .bool (.pair (.list (.int .u32)) .unit))])))
theorem spec_Whole_Up_t0 (N : Nat) : ∀ (n : Nat) (v2 : Int) (v1 : (Bool × ((List Int) × Unit))) (v5 : Int) (v6 : Int) (v7 : (List Int)), spec_Whole_Up_e0 N n v2 v1 v5 v6 v7 = spec_Whole_Up_l0 N n v2 v1 v5 v6 v7
  | 0, _, _, _, _, _ => rfl
  | n + 1, v2, v1, v5, v6, v7 => by
    have h : spec_Whole_Up_e0 N n v2 v1 = spec_Whole_Up_l0 N n v2 v1 := by funext v5 v6 v7; exact spec_Whole_Up_t0 N n v2 v1 v5 v6 v7
    exact (show spec_Whole_Up_e0 N (n + 1) v2 v1 v5 v6 v7 = spec_Whole_Up_g0 N v2 v1 (spec_Whole_Up_e0 N n v2 v1) v5 v6 v7 from by kernel_rfl).trans (by rw [h]; rfl)
theorem spec_Whole_Up_t (N : Nat) (v1 : (Bool × ((List Int) × Unit))) (v2 : Int) : evF (spec_Whole_Up_E N) [] Try.f117 [.k (.pair .bool (.pair (.list (.int .u32)) .unit)), .k (.int .i64)] [(.pair .bool (.pair (.list (.int .u32)) .unit))] (v1, v2, ()) = spec_Whole_Up N v1 v2 := by
  have h0 : (spec_Whole_Up_e0 N N) = (spec_Whole_Up_l0 N N) := by funext v2 v1 v5 v6 v7; exact spec_Whole_Up_t0 N N v2 v1 v5 v6 v7
  exact (show evF (spec_Whole_Up_E N) [] Try.f117 [.k (.pair .bool (.pair (.list (.int .u32)) .unit)), .k (.int .i64)] [(.pair .bool (.pair (.list (.int .u32)) .unit))] (v1, v2, ()) = spec_Whole_Up_g N v1 v2 (spec_Whole_Up_e0 N N) from by kernel_rfl).trans (by rw [h0]; rfl)
noncomputable def spec_Whole_Up_con (N : Nat) : Con := ⟨117, [.k (.pair .bool (.pair (.list (.int .u32)) .unit)), .k (.int .i64)], [(.pair .bool (.pair (.list (.int .u32)) .unit))], fun x => spec_Whole_Up N x.1 x.2.1⟩
theorem spec_Whole_Up_s (N : Nat) : (spec_Whole_Up_con N).Sound Try.prog :=
  Con.sound_of (c := spec_Whole_Up_con N) (E := (spec_Whole_Up_E N)) (idle := []) Try.func117 (by kernel_rfl) (by kernel_rfl) ⟨allNil, (allCons (spec_trim_b_s N) allNil)⟩ allNil (fun x y h => (spec_Whole_Up_t N x.1 x.2.1).trans h)
/-- pub-orthodrome/spec.addLimbs -/
noncomputable def spec_addLimbs_E (N : Nat) : Env := ⟨Try.prog, N, [spec_trim_con N], [(0, ⟨[], [], [0, 1], [], none⟩), (1, ⟨[], [], [0, 1], [], none⟩), (2, ⟨[], [], [0, 1, 14], [], none⟩), (3, ⟨[], [], [0, 1], [], some N⟩), (4, ⟨[], [], [0, 1, 5], [20], none⟩), (5, ⟨[], [], [0, 1, 5, 6], [20], none⟩), (6, ⟨[(5, 129, (.int .u32), 90600)], [], [1, 5, 6, 21, 22, 23], [90600], none⟩), (7, ⟨[], [], [1, 5, 6, 21, 22, 23], [90600], none⟩), (8, ⟨[], [], [1, 5, 6, 7, 8, 21, 22, 23], [90600], none⟩), (9, ⟨[], [], [1, 5, 7, 9, 21, 22, 23], [90600], none⟩), (10, ⟨[], [], [1, 5, 7, 9, 21, 22, 23, 35], [90600], none⟩), (11, ⟨[], [], [1, 5, 9, 21, 22, 23], [90600], some N⟩), (12, ⟨[], [], [1, 5, 9, 21, 22, 23], [47], none⟩), (13, ⟨[], [], [1, 5, 6, 21, 22, 23], [47], none⟩), (14, ⟨[], [], [5, 6], [90600], none⟩)], kdL [(129, (.int .u32))], []⟩
def spec_addLimbs_g2 (N : Nat) (v4 : (List Int)) (v3 : (List Int)) (v10 : Int) (v11 : (List Int)) (r1 : Int → Int → (List Int) → Option ((List Int))) (v14 : Int) : Option ((List Int)) :=
  (lim ((v11.length + ([(IntKind.u32.wrap v14)] : List Int).length) * 4)).bind fun _ => ((r1 (Int.fdiv v14 (2 ^ (min (32 : Int).toNat (IntKind.bits .u64)))) (IntKind.i64.wrap (v10 + 1)) (v11 ++ ([(IntKind.u32.wrap v14)] : List Int))))
def spec_addLimbs_j2 (N : Nat) (r1 : Int → Int → (List Int) → Option ((List Int))) (v4 : (List Int)) (v3 : (List Int)) (v10 : Int) (v11 : (List Int)) (v14 : Int) : Option ((List Int)) :=
  gate N (spec_addLimbs_g2 N v4 v3 v10 v11 r1 v14)
def spec_addLimbs_g1 (N : Nat) (v4 : (List Int)) (v3 : (List Int)) (c2 : Int → (List Int) → Int → Option ((List Int))) (r1 : Int → Int → (List Int) → Option ((List Int))) (v9 : Int) (v10 : Int) (v11 : (List Int)) : Option ((List Int)) :=
  (bif (decide ((v10 : Int) < (v3.length : Int))) then ((nth v3 v10).bind fun v12 => (bif (decide ((v10 : Int) < (v4.length : Int))) then ((nth v4 v10).bind fun v13 => (c2 v10 v11 (IntKind.u64.wrap ((IntKind.u64.wrap ((IntKind.u64.wrap v12) + v9)) + (IntKind.u64.wrap v13))))) else (c2 v10 v11 (IntKind.u64.wrap ((IntKind.u64.wrap v12) + v9))))) else ((lim ((v11.length + ([(IntKind.u32.wrap v9)] : List Int).length) * 4)).bind fun _ => (spec_trim N (v11 ++ ([(IntKind.u32.wrap v9)] : List Int))).bind fun v15 => (some v15)))
def spec_addLimbs_l1 (N : Nat) : Nat → (List Int) → (List Int) → Int → Int → (List Int) → Option ((List Int))
  | 0, _, _, _, _, _ => none
  | n + 1, v4, v3, v9, v10, v11 => spec_addLimbs_g1 N v4 v3 (spec_addLimbs_j2 N (spec_addLimbs_l1 N n v4 v3) v4 v3) (spec_addLimbs_l1 N n v4 v3) v9 v10 v11
def spec_addLimbs_g0 (N : Nat) (c1 : (List Int) → (List Int) → Int → Int → (List Int) → Option ((List Int))) (v3 : (List Int)) (v4 : (List Int)) : Option ((List Int)) :=
  (mkn 0 (IntKind.i64.wrap ((v3.length : Int) + 1)) 4).bind fun v5 => ((c1 v4 v3 0 0 (List.replicate v5 (0 : Int))))
def spec_addLimbs_j0 (N : Nat) (v3 : (List Int)) (v4 : (List Int)) : Option ((List Int)) :=
  gate N (spec_addLimbs_g0 N (spec_addLimbs_l1 N N) v3 v4)
def spec_addLimbs_g (N : Nat) (v1 : (List Int)) (v2 : (List Int)) (c0 : (List Int) → (List Int) → Option ((List Int))) : Option ((List Int)) :=
  (bif (decide (((v1.length : Int) : Int) < (v2.length : Int))) then (c0 v2 v1) else (c0 v1 v2))
def spec_addLimbs (N : Nat) (v1 : (List Int)) (v2 : (List Int)) : Option ((List Int)) :=
  spec_addLimbs_g N v1 v2 (spec_addLimbs_j0 N)
set_option maxRecDepth 100000
noncomputable def spec_addLimbs_e2 (N : Nat) (m1 : Nat) (v4 : (List Int)) (v3 : (List Int)) (v10 : Int) (v11 : (List Int)) (v14 : Int) : Option (HR [(.list (.int .u32))]) :=
  gate N (evC (spec_addLimbs_E N) (codeAt (bodyOf Try.f127) [1, 1, 1, 1, 0, 1, 0, 0, 1, 1, 0, 0, 1, 1, 1]) ⟨[(1, .pv (.list (.int .u32)) v4), (5, .own (.int .u32) 90600), (9, .pv (.int .u64) v14), (21, .pv (.list (.int .u32)) v3), (22, .pv (.int .i64) (v3.length : Int)), (23, .pv (.int .i64) v10)], [(90600, .arr 129 (.int .u32) v11)], []⟩ (kBlock 1 (kSeq (advOf (spec_addLimbs_E N) (codeAt (bodyOf Try.f127) [1, 1, 1, 1, 0, 1, 0, 0, 1, 1, 1])) (evC (spec_addLimbs_E N) (codeAt (bodyOf Try.f127) [1, 1, 1, 1, 0, 1, 0, 0, 1, 1, 1])) (kSeq (advOf (spec_addLimbs_E N) (codeAt (bodyOf Try.f127) [1, 1, 1, 1, 0, 1, 0, 0])) (fun st K => loopN (advOf (spec_addLimbs_E N) (codeAt (bodyOf Try.f127) [1, 1, 1, 1, 0, 1, 0, 0])) (evC (spec_addLimbs_E N) (codeAt (bodyOf Try.f127) [1, 1, 1, 1, 0, 1, 0, 0])) m1 st K) (kBlock 0 (kSeq (advOf (spec_addLimbs_E N) (codeAt (bodyOf Try.f127) [1, 1, 1, 1, 1])) (evC (spec_addLimbs_E N) (codeAt (bodyOf Try.f127) [1, 1, 1, 1, 1])) (kEnd (spec_addLimbs_E N) [] Try.f127.results.toList [(.list (.int .u32))])))))))
noncomputable def spec_addLimbs_e1 (N : Nat) (n : Nat) (v4 : (List Int)) (v3 : (List Int)) (v9 : Int) (v10 : Int) (v11 : (List Int)) : Option (HR [(.list (.int .u32))]) :=
  loopN (advOf (spec_addLimbs_E N) (codeAt (bodyOf Try.f127) [1, 1, 1, 1, 0, 1, 0, 0])) (evC (spec_addLimbs_E N) (codeAt (bodyOf Try.f127) [1, 1, 1, 1, 0, 1, 0, 0])) n ⟨[(1, .pv (.list (.int .u32)) v4), (5, .own (.int .u32) 90600), (6, .pv (.int .u64) v9), (21, .pv (.list (.int .u32)) v3), (22, .pv (.int .i64) (v3.length : Int)), (23, .pv (.int .i64) v10)], [(90600, .arr 129 (.int .u32) v11)], []⟩ (kBlock 0 (kSeq (advOf (spec_addLimbs_E N) (codeAt (bodyOf Try.f127) [1, 1, 1, 1, 1])) (evC (spec_addLimbs_E N) (codeAt (bodyOf Try.f127) [1, 1, 1, 1, 1])) (kEnd (spec_addLimbs_E N) [] Try.f127.results.toList [(.list (.int .u32))])))
noncomputable def spec_addLimbs_e0 (N : Nat) (v3 : (List Int)) (v4 : (List Int)) : Option (HR [(.list (.int .u32))]) :=
  gate N (evC (spec_addLimbs_E N) (codeAt (bodyOf Try.f127) [1, 1]) ⟨[(0, .pv (.list (.int .u32)) v3), (1, .pv (.list (.int .u32)) v4)], [], []⟩ (kEnd (spec_addLimbs_E N) [] Try.f127.results.toList [(.list (.int .u32))]))
theorem spec_addLimbs_t2 (N : Nat) (m1 : Nat) (v4 : (List Int)) (v3 : (List Int)) (v10 : Int) (v11 : (List Int)) (v14 : Int) : spec_addLimbs_e2 N m1 v4 v3 v10 v11 v14 = spec_addLimbs_j2 N (spec_addLimbs_e1 N m1 v4 v3) v4 v3 v10 v11 v14 := by
  exact (congrArg (gate N) (show evC (spec_addLimbs_E N) (codeAt (bodyOf Try.f127) [1, 1, 1, 1, 0, 1, 0, 0, 1, 1, 0, 0, 1, 1, 1]) ⟨[(1, .pv (.list (.int .u32)) v4), (5, .own (.int .u32) 90600), (9, .pv (.int .u64) v14), (21, .pv (.list (.int .u32)) v3), (22, .pv (.int .i64) (v3.length : Int)), (23, .pv (.int .i64) v10)], [(90600, .arr 129 (.int .u32) v11)], []⟩ (kBlock 1 (kSeq (advOf (spec_addLimbs_E N) (codeAt (bodyOf Try.f127) [1, 1, 1, 1, 0, 1, 0, 0, 1, 1, 1])) (evC (spec_addLimbs_E N) (codeAt (bodyOf Try.f127) [1, 1, 1, 1, 0, 1, 0, 0, 1, 1, 1])) (kSeq (advOf (spec_addLimbs_E N) (codeAt (bodyOf Try.f127) [1, 1, 1, 1, 0, 1, 0, 0])) (fun st K => loopN (advOf (spec_addLimbs_E N) (codeAt (bodyOf Try.f127) [1, 1, 1, 1, 0, 1, 0, 0])) (evC (spec_addLimbs_E N) (codeAt (bodyOf Try.f127) [1, 1, 1, 1, 0, 1, 0, 0])) m1 st K) (kBlock 0 (kSeq (advOf (spec_addLimbs_E N) (codeAt (bodyOf Try.f127) [1, 1, 1, 1, 1])) (evC (spec_addLimbs_E N) (codeAt (bodyOf Try.f127) [1, 1, 1, 1, 1])) (kEnd (spec_addLimbs_E N) [] Try.f127.results.toList [(.list (.int .u32))])))))) = spec_addLimbs_g2 N v4 v3 v10 v11 (spec_addLimbs_e1 N m1 v4 v3) v14 from by kernel_rfl)).trans (by rfl)
theorem spec_addLimbs_t1 (N : Nat) : ∀ (n : Nat) (v4 : (List Int)) (v3 : (List Int)) (v9 : Int) (v10 : Int) (v11 : (List Int)), spec_addLimbs_e1 N n v4 v3 v9 v10 v11 = spec_addLimbs_l1 N n v4 v3 v9 v10 v11
  | 0, _, _, _, _, _ => rfl
  | n + 1, v4, v3, v9, v10, v11 => by
    have h2 : (spec_addLimbs_e2 N n v4 v3) = (spec_addLimbs_j2 N (spec_addLimbs_e1 N n v4 v3) v4 v3) := by funext v10 v11 v14; exact spec_addLimbs_t2 N n v4 v3 v10 v11 v14
    have h : spec_addLimbs_e1 N n v4 v3 = spec_addLimbs_l1 N n v4 v3 := by funext v9 v10 v11; exact spec_addLimbs_t1 N n v4 v3 v9 v10 v11
    exact (show spec_addLimbs_e1 N (n + 1) v4 v3 v9 v10 v11 = spec_addLimbs_g1 N v4 v3 (spec_addLimbs_e2 N n v4 v3) (spec_addLimbs_e1 N n v4 v3) v9 v10 v11 from by kernel_rfl).trans (by rw [h2, h]; rfl)
theorem spec_addLimbs_t0 (N : Nat) (v3 : (List Int)) (v4 : (List Int)) : spec_addLimbs_e0 N v3 v4 = spec_addLimbs_j0 N v3 v4 := by
  have h1 : (spec_addLimbs_e1 N N) = (spec_addLimbs_l1 N N) := by funext v4 v3 v9 v10 v11; exact spec_addLimbs_t1 N N v4 v3 v9 v10 v11
  exact (congrArg (gate N) (show evC (spec_addLimbs_E N) (codeAt (bodyOf Try.f127) [1, 1]) ⟨[(0, .pv (.list (.int .u32)) v3), (1, .pv (.list (.int .u32)) v4)], [], []⟩ (kEnd (spec_addLimbs_E N) [] Try.f127.results.toList [(.list (.int .u32))]) = spec_addLimbs_g0 N (spec_addLimbs_e1 N N) v3 v4 from by kernel_rfl)).trans (by rw [h1]; rfl)
theorem spec_addLimbs_t (N : Nat) (v1 : (List Int)) (v2 : (List Int)) : evF (spec_addLimbs_E N) [] Try.f127 [.k (.list (.int .u32)), .k (.list (.int .u32))] [(.list (.int .u32))] (v1, v2, ()) = spec_addLimbs N v1 v2 := by
  have h0 : (spec_addLimbs_e0 N) = (spec_addLimbs_j0 N) := by funext v3 v4; exact spec_addLimbs_t0 N v3 v4
  exact (show evF (spec_addLimbs_E N) [] Try.f127 [.k (.list (.int .u32)), .k (.list (.int .u32))] [(.list (.int .u32))] (v1, v2, ()) = spec_addLimbs_g N v1 v2 (spec_addLimbs_e0 N) from by kernel_rfl).trans (by rw [h0]; rfl)
noncomputable def spec_addLimbs_con (N : Nat) : Con := ⟨127, [.k (.list (.int .u32)), .k (.list (.int .u32))], [(.list (.int .u32))], fun x => spec_addLimbs N x.1 x.2.1⟩
theorem spec_addLimbs_s (N : Nat) : (spec_addLimbs_con N).Sound Try.prog :=
  Con.sound_of (c := spec_addLimbs_con N) (E := (spec_addLimbs_E N)) (idle := []) Try.func127 (by kernel_rfl) (by kernel_rfl) ⟨(allCons (spec_trim_s N) allNil), allNil⟩ allNil (fun x y h => (spec_addLimbs_t N x.1 x.2.1).trans h)
/-- pub-orthodrome/spec.cmpLimbs -/
noncomputable def spec_cmpLimbs_E (N : Nat) : Env := ⟨Try.prog, N, [], [(0, ⟨[], [], [0, 1], [], none⟩), (1, ⟨[], [], [0, 1], [], none⟩), (2, ⟨[], [], [0, 1, 10], [], none⟩), (3, ⟨[], [], [15], [], none⟩), (4, ⟨[], [], [], [], none⟩), (5, ⟨[], [], [0, 1], [], none⟩), (6, ⟨[], [], [0, 1, 5], [], none⟩), (7, ⟨[], [], [0, 1, 5], [], none⟩), (8, ⟨[], [], [0, 1, 5], [], none⟩), (9, ⟨[], [], [0, 1, 5, 31], [], none⟩), (10, ⟨[], [], [40], [], none⟩), (11, ⟨[], [], [], [], none⟩), (12, ⟨[], [], [], [], none⟩)], kdL [], []⟩
def spec_cmpLimbs_g0 (N : Nat) (v1 : (List Int)) (v2 : (List Int)) (r0 : Int → Option (Int)) (v7 : Int) : Option (Int) :=
  (bif (decide ((v7 : Int) ≥ 0)) then ((nth v1 v7).bind fun v8 => (nth v2 v7).bind fun v9 => (bif (v8 != v9) then ((nth v1 v7).bind fun v10 => (nth v2 v7).bind fun v11 => (bif (decide ((v10 : Int) < v11)) then (some (-1)) else (some 1))) else ((r0 (IntKind.i64.wrap (v7 - 1)))))) else (some 0))
def spec_cmpLimbs_l0 (N : Nat) : Nat → (List Int) → (List Int) → Int → Option (Int)
  | 0, _, _, _ => none
  | n + 1, v1, v2, v7 => spec_cmpLimbs_g0 N v1 v2 (spec_cmpLimbs_l0 N n v1 v2) v7
def spec_cmpLimbs_g (N : Nat) (v1 : (List Int)) (v2 : (List Int)) (c0 : (List Int) → (List Int) → Int → Option (Int)) : Option (Int) :=
  (bif ((v1.length : Int) != (v2.length : Int)) then (bif (decide (((v1.length : Int) : Int) < (v2.length : Int))) then (some (-1)) else (some 1)) else ((c0 v1 v2 (IntKind.i64.wrap ((v1.length : Int) - 1)))))
def spec_cmpLimbs (N : Nat) (v1 : (List Int)) (v2 : (List Int)) : Option (Int) :=
  spec_cmpLimbs_g N v1 v2 (spec_cmpLimbs_l0 N N)
set_option maxRecDepth 100000
noncomputable def spec_cmpLimbs_e0 (N : Nat) (n : Nat) (v1 : (List Int)) (v2 : (List Int)) (v7 : Int) : Option (HR [(.int .i64)]) :=
  loopN (advOf (spec_cmpLimbs_E N) (codeAt (bodyOf Try.f128) [1, 1, 0, 1, 0, 0])) (evC (spec_cmpLimbs_E N) (codeAt (bodyOf Try.f128) [1, 1, 0, 1, 0, 0])) n ⟨[(0, .pv (.list (.int .u32)) v1), (1, .pv (.list (.int .u32)) v2), (5, .pv (.int .i64) v7)], [], []⟩ (kBlock 0 (kSeq (advOf (spec_cmpLimbs_E N) (codeAt (bodyOf Try.f128) [1, 1, 1])) (evC (spec_cmpLimbs_E N) (codeAt (bodyOf Try.f128) [1, 1, 1])) (kEnd (spec_cmpLimbs_E N) [] Try.f128.results.toList [(.int .i64)])))
theorem spec_cmpLimbs_t0 (N : Nat) : ∀ (n : Nat) (v1 : (List Int)) (v2 : (List Int)) (v7 : Int), spec_cmpLimbs_e0 N n v1 v2 v7 = spec_cmpLimbs_l0 N n v1 v2 v7
  | 0, _, _, _ => rfl
  | n + 1, v1, v2, v7 => by
    have h : spec_cmpLimbs_e0 N n v1 v2 = spec_cmpLimbs_l0 N n v1 v2 := by funext v7; exact spec_cmpLimbs_t0 N n v1 v2 v7
    exact (show spec_cmpLimbs_e0 N (n + 1) v1 v2 v7 = spec_cmpLimbs_g0 N v1 v2 (spec_cmpLimbs_e0 N n v1 v2) v7 from by kernel_rfl).trans (by rw [h]; rfl)
theorem spec_cmpLimbs_t (N : Nat) (v1 : (List Int)) (v2 : (List Int)) : evF (spec_cmpLimbs_E N) [] Try.f128 [.k (.list (.int .u32)), .k (.list (.int .u32))] [(.int .i64)] (v1, v2, ()) = spec_cmpLimbs N v1 v2 := by
  have h0 : (spec_cmpLimbs_e0 N N) = (spec_cmpLimbs_l0 N N) := by funext v1 v2 v7; exact spec_cmpLimbs_t0 N N v1 v2 v7
  exact (show evF (spec_cmpLimbs_E N) [] Try.f128 [.k (.list (.int .u32)), .k (.list (.int .u32))] [(.int .i64)] (v1, v2, ()) = spec_cmpLimbs_g N v1 v2 (spec_cmpLimbs_e0 N N) from by kernel_rfl).trans (by rw [h0]; rfl)
noncomputable def spec_cmpLimbs_con (N : Nat) : Con := ⟨128, [.k (.list (.int .u32)), .k (.list (.int .u32))], [(.int .i64)], fun x => spec_cmpLimbs N x.1 x.2.1⟩
theorem spec_cmpLimbs_s (N : Nat) : (spec_cmpLimbs_con N).Sound Try.prog :=
  Con.sound_of (c := spec_cmpLimbs_con N) (E := (spec_cmpLimbs_E N)) (idle := []) Try.func128 (by kernel_rfl) (by kernel_rfl) ⟨allNil, allNil⟩ allNil (fun x y h => (spec_cmpLimbs_t N x.1 x.2.1).trans h)
/-- pub-orthodrome/spec.subLimbs -/
noncomputable def spec_subLimbs_E (N : Nat) : Env := ⟨Try.prog, N, [spec_trim_con N], [(0, ⟨[], [], [0, 1], [], none⟩), (1, ⟨[], [], [0, 1], [], none⟩), (2, ⟨[], [], [0, 1, 5], [12], none⟩), (3, ⟨[], [], [0, 1, 5, 6], [12], none⟩), (4, ⟨[(5, 129, (.int .u32), 90400)], [], [1, 5, 6, 13, 14, 15], [90400], none⟩), (5, ⟨[], [], [1, 5, 6, 13, 14, 15], [90400], none⟩), (6, ⟨[], [], [1, 5, 6, 7, 8, 13, 14, 15], [90400], none⟩), (7, ⟨[], [], [1, 5, 7, 8, 9, 13, 14, 15], [90400], none⟩), (8, ⟨[], [], [1, 5, 7, 8, 9, 13, 14, 15, 24], [90400], none⟩), (9, ⟨[], [], [1, 5, 8, 9, 13, 14, 15], [90400], some N⟩), (10, ⟨[], [], [1, 5, 6, 8, 9, 13, 14, 15], [90400], none⟩), (11, ⟨[], [], [1, 5, 6, 8, 9, 13, 14, 15, 35], [90400], none⟩), (12, ⟨[], [], [1, 5, 6, 8, 9, 13, 14, 15], [90400], some N⟩), (13, ⟨[], [], [1, 5, 6, 13, 14, 15], [46], none⟩), (14, ⟨[], [], [5], [90400], none⟩)], kdL [(129, (.int .u32))], []⟩
def spec_subLimbs_g2 (N : Nat) (v2 : (List Int)) (v1 : (List Int)) (v11 : Int) (v13 : Int) (v9 : Int) (v10 : (List Int)) (r0 : Int → Int → (List Int) → Option ((List Int))) (v14 : Int) : Option ((List Int)) :=
  (lim ((v10.length + ([(IntKind.u32.wrap (IntKind.u64.wrap ((IntKind.u64.wrap ((IntKind.u64.wrap v11) + (IntKind.u64.wrap (v14 * 2 ^ (min (32 : Int).toNat (IntKind.bits .u64)))))) - v13)))] : List Int).length) * 4)).bind fun _ => ((r0 v14 (IntKind.i64.wrap (v9 + 1)) (v10 ++ ([(IntKind.u32.wrap (IntKind.u64.wrap ((IntKind.u64.wrap ((IntKind.u64.wrap v11) + (IntKind.u64.wrap (v14 * 2 ^ (min (32 : Int).toNat (IntKind.bits .u64)))))) - v13)))] : List Int))))
def spec_subLimbs_j2 (N : Nat) (r0 : Int → Int → (List Int) → Option ((List Int))) (v2 : (List Int)) (v1 : (List Int)) (v11 : Int) (v13 : Int) (v9 : Int) (v10 : (List Int)) (v14 : Int) : Option ((List Int)) :=
  gate N (spec_subLimbs_g2 N v2 v1 v11 v13 v9 v10 r0 v14)
def spec_subLimbs_g1 (N : Nat) (v2 : (List Int)) (v1 : (List Int)) (v11 : Int) (v9 : Int) (v10 : (List Int)) (c2 : Int → Int → Int → (List Int) → Int → Option ((List Int))) (r0 : Int → Int → (List Int) → Option ((List Int))) (v13 : Int) : Option ((List Int)) :=
  (bif (decide (((IntKind.u64.wrap v11) : Int) < v13)) then (c2 v11 v13 v9 v10 1) else (c2 v11 v13 v9 v10 0))
def spec_subLimbs_j1 (N : Nat) (r0 : Int → Int → (List Int) → Option ((List Int))) (v2 : (List Int)) (v1 : (List Int)) (v11 : Int) (v9 : Int) (v10 : (List Int)) (v13 : Int) : Option ((List Int)) :=
  gate N (spec_subLimbs_g1 N v2 v1 v11 v9 v10 (spec_subLimbs_j2 N r0 v2 v1) r0 v13)
def spec_subLimbs_g0 (N : Nat) (v2 : (List Int)) (v1 : (List Int)) (c1 : Int → Int → (List Int) → Int → Option ((List Int))) (r0 : Int → Int → (List Int) → Option ((List Int))) (v8 : Int) (v9 : Int) (v10 : (List Int)) : Option ((List Int)) :=
  (bif (decide ((v9 : Int) < (v1.length : Int))) then ((nth v1 v9).bind fun v11 => (bif (decide ((v9 : Int) < (v2.length : Int))) then ((nth v2 v9).bind fun v12 => (c1 v11 v9 v10 (IntKind.u64.wrap (v8 + (IntKind.u64.wrap v12))))) else (c1 v11 v9 v10 v8))) else ((spec_trim N v10).bind fun v15 => (some v15)))
def spec_subLimbs_l0 (N : Nat) : Nat → (List Int) → (List Int) → Int → Int → (List Int) → Option ((List Int))
  | 0, _, _, _, _, _ => none
  | n + 1, v2, v1, v8, v9, v10 => spec_subLimbs_g0 N v2 v1 (spec_subLimbs_j1 N (spec_subLimbs_l0 N n v2 v1) v2 v1) (spec_subLimbs_l0 N n v2 v1) v8 v9 v10
def spec_subLimbs_g (N : Nat) (v1 : (List Int)) (v2 : (List Int)) (c0 : (List Int) → (List Int) → Int → Int → (List Int) → Option ((List Int))) : Option ((List Int)) :=
  ((mkn 0 (v1.length : Int) 4).bind fun v3 => ((c0 v2 v1 0 0 (List.replicate v3 (0 : Int)))))
def spec_subLimbs (N : Nat) (v1 : (List Int)) (v2 : (List Int)) : Option ((List Int)) :=
  spec_subLimbs_g N v1 v2 (spec_subLimbs_l0 N N)
set_option maxRecDepth 100000
noncomputable def spec_subLimbs_e2 (N : Nat) (m0 : Nat) (v2 : (List Int)) (v1 : (List Int)) (v11 : Int) (v13 : Int) (v9 : Int) (v10 : (List Int)) (v14 : Int) : Option (HR [(.list (.int .u32))]) :=
  gate N (evC (spec_subLimbs_E N) (codeAt (bodyOf Try.f129) [1, 1, 1, 0, 1, 0, 0, 1, 1, 0, 0, 1, 1, 1, 1, 1]) ⟨[(1, .pv (.list (.int .u32)) v2), (5, .own (.int .u32) 90400), (6, .pv (.int .u64) v14), (8, .pv (.int .u32) v11), (9, .pv (.int .u64) v13), (13, .pv (.list (.int .u32)) v1), (14, .pv (.int .i64) (v1.length : Int)), (15, .pv (.int .i64) v9)], [(90400, .arr 129 (.int .u32) v10)], []⟩ (kBlock 1 (kSeq (advOf (spec_subLimbs_E N) (codeAt (bodyOf Try.f129) [1, 1, 1, 0, 1, 0, 0, 1, 1, 1])) (evC (spec_subLimbs_E N) (codeAt (bodyOf Try.f129) [1, 1, 1, 0, 1, 0, 0, 1, 1, 1])) (kSeq (advOf (spec_subLimbs_E N) (codeAt (bodyOf Try.f129) [1, 1, 1, 0, 1, 0, 0])) (fun st K => loopN (advOf (spec_subLimbs_E N) (codeAt (bodyOf Try.f129) [1, 1, 1, 0, 1, 0, 0])) (evC (spec_subLimbs_E N) (codeAt (bodyOf Try.f129) [1, 1, 1, 0, 1, 0, 0])) m0 st K) (kBlock 0 (kSeq (advOf (spec_subLimbs_E N) (codeAt (bodyOf Try.f129) [1, 1, 1, 1])) (evC (spec_subLimbs_E N) (codeAt (bodyOf Try.f129) [1, 1, 1, 1])) (kEnd (spec_subLimbs_E N) [] Try.f129.results.toList [(.list (.int .u32))])))))))
noncomputable def spec_subLimbs_e1 (N : Nat) (m0 : Nat) (v2 : (List Int)) (v1 : (List Int)) (v11 : Int) (v9 : Int) (v10 : (List Int)) (v13 : Int) : Option (HR [(.list (.int .u32))]) :=
  gate N (evC (spec_subLimbs_E N) (codeAt (bodyOf Try.f129) [1, 1, 1, 0, 1, 0, 0, 1, 1, 0, 0, 1, 1, 1]) ⟨[(1, .pv (.list (.int .u32)) v2), (5, .own (.int .u32) 90400), (8, .pv (.int .u32) v11), (9, .pv (.int .u64) v13), (13, .pv (.list (.int .u32)) v1), (14, .pv (.int .i64) (v1.length : Int)), (15, .pv (.int .i64) v9)], [(90400, .arr 129 (.int .u32) v10)], []⟩ (kBlock 1 (kSeq (advOf (spec_subLimbs_E N) (codeAt (bodyOf Try.f129) [1, 1, 1, 0, 1, 0, 0, 1, 1, 1])) (evC (spec_subLimbs_E N) (codeAt (bodyOf Try.f129) [1, 1, 1, 0, 1, 0, 0, 1, 1, 1])) (kSeq (advOf (spec_subLimbs_E N) (codeAt (bodyOf Try.f129) [1, 1, 1, 0, 1, 0, 0])) (fun st K => loopN (advOf (spec_subLimbs_E N) (codeAt (bodyOf Try.f129) [1, 1, 1, 0, 1, 0, 0])) (evC (spec_subLimbs_E N) (codeAt (bodyOf Try.f129) [1, 1, 1, 0, 1, 0, 0])) m0 st K) (kBlock 0 (kSeq (advOf (spec_subLimbs_E N) (codeAt (bodyOf Try.f129) [1, 1, 1, 1])) (evC (spec_subLimbs_E N) (codeAt (bodyOf Try.f129) [1, 1, 1, 1])) (kEnd (spec_subLimbs_E N) [] Try.f129.results.toList [(.list (.int .u32))])))))))
noncomputable def spec_subLimbs_e0 (N : Nat) (n : Nat) (v2 : (List Int)) (v1 : (List Int)) (v8 : Int) (v9 : Int) (v10 : (List Int)) : Option (HR [(.list (.int .u32))]) :=
  loopN (advOf (spec_subLimbs_E N) (codeAt (bodyOf Try.f129) [1, 1, 1, 0, 1, 0, 0])) (evC (spec_subLimbs_E N) (codeAt (bodyOf Try.f129) [1, 1, 1, 0, 1, 0, 0])) n ⟨[(1, .pv (.list (.int .u32)) v2), (5, .own (.int .u32) 90400), (6, .pv (.int .u64) v8), (13, .pv (.list (.int .u32)) v1), (14, .pv (.int .i64) (v1.length : Int)), (15, .pv (.int .i64) v9)], [(90400, .arr 129 (.int .u32) v10)], []⟩ (kBlock 0 (kSeq (advOf (spec_subLimbs_E N) (codeAt (bodyOf Try.f129) [1, 1, 1, 1])) (evC (spec_subLimbs_E N) (codeAt (bodyOf Try.f129) [1, 1, 1, 1])) (kEnd (spec_subLimbs_E N) [] Try.f129.results.toList [(.list (.int .u32))])))
theorem spec_subLimbs_t2 (N : Nat) (m0 : Nat) (v2 : (List Int)) (v1 : (List Int)) (v11 : Int) (v13 : Int) (v9 : Int) (v10 : (List Int)) (v14 : Int) : spec_subLimbs_e2 N m0 v2 v1 v11 v13 v9 v10 v14 = spec_subLimbs_j2 N (spec_subLimbs_e0 N m0 v2 v1) v2 v1 v11 v13 v9 v10 v14 := by
  exact (congrArg (gate N) (show evC (spec_subLimbs_E N) (codeAt (bodyOf Try.f129) [1, 1, 1, 0, 1, 0, 0, 1, 1, 0, 0, 1, 1, 1, 1, 1]) ⟨[(1, .pv (.list (.int .u32)) v2), (5, .own (.int .u32) 90400), (6, .pv (.int .u64) v14), (8, .pv (.int .u32) v11), (9, .pv (.int .u64) v13), (13, .pv (.list (.int .u32)) v1), (14, .pv (.int .i64) (v1.length : Int)), (15, .pv (.int .i64) v9)], [(90400, .arr 129 (.int .u32) v10)], []⟩ (kBlock 1 (kSeq (advOf (spec_subLimbs_E N) (codeAt (bodyOf Try.f129) [1, 1, 1, 0, 1, 0, 0, 1, 1, 1])) (evC (spec_subLimbs_E N) (codeAt (bodyOf Try.f129) [1, 1, 1, 0, 1, 0, 0, 1, 1, 1])) (kSeq (advOf (spec_subLimbs_E N) (codeAt (bodyOf Try.f129) [1, 1, 1, 0, 1, 0, 0])) (fun st K => loopN (advOf (spec_subLimbs_E N) (codeAt (bodyOf Try.f129) [1, 1, 1, 0, 1, 0, 0])) (evC (spec_subLimbs_E N) (codeAt (bodyOf Try.f129) [1, 1, 1, 0, 1, 0, 0])) m0 st K) (kBlock 0 (kSeq (advOf (spec_subLimbs_E N) (codeAt (bodyOf Try.f129) [1, 1, 1, 1])) (evC (spec_subLimbs_E N) (codeAt (bodyOf Try.f129) [1, 1, 1, 1])) (kEnd (spec_subLimbs_E N) [] Try.f129.results.toList [(.list (.int .u32))])))))) = spec_subLimbs_g2 N v2 v1 v11 v13 v9 v10 (spec_subLimbs_e0 N m0 v2 v1) v14 from by kernel_rfl)).trans (by rfl)
theorem spec_subLimbs_t1 (N : Nat) (m0 : Nat) (v2 : (List Int)) (v1 : (List Int)) (v11 : Int) (v9 : Int) (v10 : (List Int)) (v13 : Int) : spec_subLimbs_e1 N m0 v2 v1 v11 v9 v10 v13 = spec_subLimbs_j1 N (spec_subLimbs_e0 N m0 v2 v1) v2 v1 v11 v9 v10 v13 := by
  have h2 : (spec_subLimbs_e2 N m0 v2 v1) = (spec_subLimbs_j2 N (spec_subLimbs_e0 N m0 v2 v1) v2 v1) := by funext v11 v13 v9 v10 v14; exact spec_subLimbs_t2 N m0 v2 v1 v11 v13 v9 v10 v14
  exact (congrArg (gate N) (show evC (spec_subLimbs_E N) (codeAt (bodyOf Try.f129) [1, 1, 1, 0, 1, 0, 0, 1, 1, 0, 0, 1, 1, 1]) ⟨[(1, .pv (.list (.int .u32)) v2), (5, .own (.int .u32) 90400), (8, .pv (.int .u32) v11), (9, .pv (.int .u64) v13), (13, .pv (.list (.int .u32)) v1), (14, .pv (.int .i64) (v1.length : Int)), (15, .pv (.int .i64) v9)], [(90400, .arr 129 (.int .u32) v10)], []⟩ (kBlock 1 (kSeq (advOf (spec_subLimbs_E N) (codeAt (bodyOf Try.f129) [1, 1, 1, 0, 1, 0, 0, 1, 1, 1])) (evC (spec_subLimbs_E N) (codeAt (bodyOf Try.f129) [1, 1, 1, 0, 1, 0, 0, 1, 1, 1])) (kSeq (advOf (spec_subLimbs_E N) (codeAt (bodyOf Try.f129) [1, 1, 1, 0, 1, 0, 0])) (fun st K => loopN (advOf (spec_subLimbs_E N) (codeAt (bodyOf Try.f129) [1, 1, 1, 0, 1, 0, 0])) (evC (spec_subLimbs_E N) (codeAt (bodyOf Try.f129) [1, 1, 1, 0, 1, 0, 0])) m0 st K) (kBlock 0 (kSeq (advOf (spec_subLimbs_E N) (codeAt (bodyOf Try.f129) [1, 1, 1, 1])) (evC (spec_subLimbs_E N) (codeAt (bodyOf Try.f129) [1, 1, 1, 1])) (kEnd (spec_subLimbs_E N) [] Try.f129.results.toList [(.list (.int .u32))])))))) = spec_subLimbs_g1 N v2 v1 v11 v9 v10 (spec_subLimbs_e2 N m0 v2 v1) (spec_subLimbs_e0 N m0 v2 v1) v13 from by kernel_rfl)).trans (by rw [h2]; rfl)
theorem spec_subLimbs_t0 (N : Nat) : ∀ (n : Nat) (v2 : (List Int)) (v1 : (List Int)) (v8 : Int) (v9 : Int) (v10 : (List Int)), spec_subLimbs_e0 N n v2 v1 v8 v9 v10 = spec_subLimbs_l0 N n v2 v1 v8 v9 v10
  | 0, _, _, _, _, _ => rfl
  | n + 1, v2, v1, v8, v9, v10 => by
    have h1 : (spec_subLimbs_e1 N n v2 v1) = (spec_subLimbs_j1 N (spec_subLimbs_e0 N n v2 v1) v2 v1) := by funext v11 v9 v10 v13; exact spec_subLimbs_t1 N n v2 v1 v11 v9 v10 v13
    have h : spec_subLimbs_e0 N n v2 v1 = spec_subLimbs_l0 N n v2 v1 := by funext v8 v9 v10; exact spec_subLimbs_t0 N n v2 v1 v8 v9 v10
    exact (show spec_subLimbs_e0 N (n + 1) v2 v1 v8 v9 v10 = spec_subLimbs_g0 N v2 v1 (spec_subLimbs_e1 N n v2 v1) (spec_subLimbs_e0 N n v2 v1) v8 v9 v10 from by kernel_rfl).trans (by rw [h1, h]; rfl)
theorem spec_subLimbs_t (N : Nat) (v1 : (List Int)) (v2 : (List Int)) : evF (spec_subLimbs_E N) [] Try.f129 [.k (.list (.int .u32)), .k (.list (.int .u32))] [(.list (.int .u32))] (v1, v2, ()) = spec_subLimbs N v1 v2 := by
  have h0 : (spec_subLimbs_e0 N N) = (spec_subLimbs_l0 N N) := by funext v2 v1 v8 v9 v10; exact spec_subLimbs_t0 N N v2 v1 v8 v9 v10
  exact (show evF (spec_subLimbs_E N) [] Try.f129 [.k (.list (.int .u32)), .k (.list (.int .u32))] [(.list (.int .u32))] (v1, v2, ()) = spec_subLimbs_g N v1 v2 (spec_subLimbs_e0 N N) from by kernel_rfl).trans (by rw [h0]; rfl)
noncomputable def spec_subLimbs_con (N : Nat) : Con := ⟨129, [.k (.list (.int .u32)), .k (.list (.int .u32))], [(.list (.int .u32))], fun x => spec_subLimbs N x.1 x.2.1⟩
theorem spec_subLimbs_s (N : Nat) : (spec_subLimbs_con N).Sound Try.prog :=
  Con.sound_of (c := spec_subLimbs_con N) (E := (spec_subLimbs_E N)) (idle := []) Try.func129 (by kernel_rfl) (by kernel_rfl) ⟨(allCons (spec_trim_s N) allNil), allNil⟩ allNil (fun x y h => (spec_subLimbs_t N x.1 x.2.1).trans h)
/-- (pub-orthodrome/spec.Whole).Add -/
noncomputable def spec_Whole_Add_E (N : Nat) : Env := ⟨Try.prog, N, [spec_addLimbs_con N, spec_cmpLimbs_con N, spec_subLimbs_con N], [(0, ⟨[], [], [0, 1], [], none⟩), (1, ⟨[], [], [2, 3, 4], [2, 3, 4], none⟩), (2, ⟨[], [], [2, 3, 4, 9], [2, 3, 4], none⟩), (3, ⟨[], [], [2, 3, 4], [2, 3, 4], none⟩), (4, ⟨[], [], [2, 3, 4, 22], [2, 3, 4], none⟩), (5, ⟨[], [], [2, 3, 4, 22, 23], [2, 3, 4], none⟩), (7, ⟨[], [], [2, 3, 4, 26], [2, 3, 4], none⟩), (8, ⟨[], [], [2, 3, 4], [2, 3, 4], none⟩)], kdL [], []⟩
def spec_Whole_Add_g (N : Nat) (v1 : (Bool × ((List Int) × Unit))) (v2 : (Bool × ((List Int) × Unit))) : Option ((Bool × ((List Int) × Unit))) :=
  (bif (v1.1 == v2.1) then ((spec_addLimbs N v1.2.1 v2.2.1).bind fun v3 => (some (v1.1, v3, ()))) else ((spec_cmpLimbs N v1.2.1 v2.2.1).bind fun v4 => (bif (v4 == 0) then (some (false, ([] : List Int), ())) else (bif (v4 == 1) then ((spec_subLimbs N v1.2.1 v2.2.1).bind fun v5 => (some (v1.1, v5, ()))) else ((spec_subLimbs N v2.2.1 v1.2.1).bind fun v6 => (some (v2.1, v6, ())))))))
def spec_Whole_Add (N : Nat) (v1 : (Bool × ((List Int) × Unit))) (v2 : (Bool × ((List Int) × Unit))) : Option ((Bool × ((List Int) × Unit))) :=
  spec_Whole_Add_g N v1 v2
set_option maxRecDepth 100000
theorem spec_Whole_Add_t (N : Nat) (v1 : (Bool × ((List Int) × Unit))) (v2 : (Bool × ((List Int) × Unit))) : evF (spec_Whole_Add_E N) [] Try.f118 [.k (.pair .bool (.pair (.list (.int .u32)) .unit)), .k (.pair .bool (.pair (.list (.int .u32)) .unit))] [(.pair .bool (.pair (.list (.int .u32)) .unit))] (v1, v2, ()) = spec_Whole_Add N v1 v2 := by
  exact (show evF (spec_Whole_Add_E N) [] Try.f118 [.k (.pair .bool (.pair (.list (.int .u32)) .unit)), .k (.pair .bool (.pair (.list (.int .u32)) .unit))] [(.pair .bool (.pair (.list (.int .u32)) .unit))] (v1, v2, ()) = spec_Whole_Add_g N v1 v2 from by kernel_rfl).trans (by rfl)
noncomputable def spec_Whole_Add_con (N : Nat) : Con := ⟨118, [.k (.pair .bool (.pair (.list (.int .u32)) .unit)), .k (.pair .bool (.pair (.list (.int .u32)) .unit))], [(.pair .bool (.pair (.list (.int .u32)) .unit))], fun x => spec_Whole_Add N x.1 x.2.1⟩
theorem spec_Whole_Add_s (N : Nat) : (spec_Whole_Add_con N).Sound Try.prog :=
  Con.sound_of (c := spec_Whole_Add_con N) (E := (spec_Whole_Add_E N)) (idle := []) Try.func118 (by kernel_rfl) (by kernel_rfl) ⟨(allCons (spec_addLimbs_s N) (allCons (spec_cmpLimbs_s N) (allCons (spec_subLimbs_s N) allNil))), allNil⟩ allNil (fun x y h => (spec_Whole_Add_t N x.1 x.2.1).trans h)
/-- (pub-orthodrome/spec.Dyadic).Add -/
noncomputable def spec_Dyadic_Add_E (N : Nat) : Env := ⟨Try.prog, N, [spec_Dyadic_Sign_con N, spec_Whole_Up_con N, spec_Whole_Add_con N], [(0, ⟨[], [], [0, 1], [], none⟩), (1, ⟨[], [], [2, 3, 4], [2, 3, 4], none⟩), (2, ⟨[], [], [2, 3, 4, 5], [2, 3, 4], none⟩), (4, ⟨[], [], [2, 3, 4, 10], [2, 3, 4], none⟩), (6, ⟨[], [], [2, 3, 4, 15], [2, 3, 4], none⟩), (7, ⟨[], [], [2, 3, 4], [2, 3, 4], none⟩)], kdL [], []⟩
def spec_Dyadic_Add_g (N : Nat) (v1 : ((Bool × ((List Int) × Unit)) × (Int × Unit))) (v2 : ((Bool × ((List Int) × Unit)) × (Int × Unit))) : Option (((Bool × ((List Int) × Unit)) × (Int × Unit))) :=
  ((spec_Dyadic_Sign N ((v1.1.1, v1.1.2.1, ()), v1.2.1, ())).bind fun v3 => (bif (v3 == 0) then (some ((v2.1.1, v2.1.2.1, ()), v2.2.1, ())) else ((spec_Dyadic_Sign N ((v2.1.1, v2.1.2.1, ()), v2.2.1, ())).bind fun v4 => (bif (v4 == 0) then (some ((v1.1.1, v1.1.2.1, ()), v1.2.1, ())) else (bif (decide ((v1.2.1 : Int) > v2.2.1)) then ((spec_Whole_Up N (v1.1.1, v1.1.2.1, ()) (IntKind.i64.wrap (v1.2.1 - v2.2.1))).bind fun v5 => (spec_Whole_Add N v5 (v2.1.1, v2.1.2.1, ())).bind fun v6 => (some ((v6.1, v6.2.1, ()), v2.2.1, ()))) else ((spec_Whole_Up N (v2.1.1, v2.1.2.1, ()) (IntKind.i64.wrap (v2.2.1 - v1.2.1))).bind fun v7 => (spec_Whole_Add N v7 (v1.1.1, v1.1.2.1, ())).bind fun v8 => (some ((v8.1, v8.2.1, ()), v1.2.1, ()))))))))
def spec_Dyadic_Add (N : Nat) (v1 : ((Bool × ((List Int) × Unit)) × (Int × Unit))) (v2 : ((Bool × ((List Int) × Unit)) × (Int × Unit))) : Option (((Bool × ((List Int) × Unit)) × (Int × Unit))) :=
  spec_Dyadic_Add_g N v1 v2
set_option maxRecDepth 100000
theorem spec_Dyadic_Add_t (N : Nat) (v1 : ((Bool × ((List Int) × Unit)) × (Int × Unit))) (v2 : ((Bool × ((List Int) × Unit)) × (Int × Unit))) : evF (spec_Dyadic_Add_E N) [] Try.f100 [.k (.pair (.pair .bool (.pair (.list (.int .u32)) .unit)) (.pair (.int .i64) .unit)), .k (.pair (.pair .bool (.pair (.list (.int .u32)) .unit)) (.pair (.int .i64) .unit))] [(.pair (.pair .bool (.pair (.list (.int .u32)) .unit)) (.pair (.int .i64) .unit))] (v1, v2, ()) = spec_Dyadic_Add N v1 v2 := by
  exact (show evF (spec_Dyadic_Add_E N) [] Try.f100 [.k (.pair (.pair .bool (.pair (.list (.int .u32)) .unit)) (.pair (.int .i64) .unit)), .k (.pair (.pair .bool (.pair (.list (.int .u32)) .unit)) (.pair (.int .i64) .unit))] [(.pair (.pair .bool (.pair (.list (.int .u32)) .unit)) (.pair (.int .i64) .unit))] (v1, v2, ()) = spec_Dyadic_Add_g N v1 v2 from by kernel_rfl).trans (by rfl)
noncomputable def spec_Dyadic_Add_con (N : Nat) : Con := ⟨100, [.k (.pair (.pair .bool (.pair (.list (.int .u32)) .unit)) (.pair (.int .i64) .unit)), .k (.pair (.pair .bool (.pair (.list (.int .u32)) .unit)) (.pair (.int .i64) .unit))], [(.pair (.pair .bool (.pair (.list (.int .u32)) .unit)) (.pair (.int .i64) .unit))], fun x => spec_Dyadic_Add N x.1 x.2.1⟩
theorem spec_Dyadic_Add_s (N : Nat) : (spec_Dyadic_Add_con N).Sound Try.prog :=
  Con.sound_of (c := spec_Dyadic_Add_con N) (E := (spec_Dyadic_Add_E N)) (idle := []) Try.func100 (by kernel_rfl) (by kernel_rfl) ⟨(allCons (spec_Dyadic_Sign_s N) (allCons (spec_Whole_Up_s N) (allCons (spec_Whole_Add_s N) allNil))), allNil⟩ allNil (fun x y h => (spec_Dyadic_Add_t N x.1 x.2.1).trans h)
/-- (pub-orthodrome/spec.Dyadic).Sub -/
noncomputable def spec_Dyadic_Sub_E (N : Nat) : Env := ⟨Try.prog, N, [spec_Dyadic_Minus_con N, spec_Dyadic_Add_con N], [(0, ⟨[], [], [0, 1], [], none⟩), (1, ⟨[], [], [2, 3, 4], [2, 3, 4], none⟩)], kdL [], []⟩
def spec_Dyadic_Sub_g (N : Nat) (v1 : ((Bool × ((List Int) × Unit)) × (Int × Unit))) (v2 : ((Bool × ((List Int) × Unit)) × (Int × Unit))) : Option (((Bool × ((List Int) × Unit)) × (Int × Unit))) :=
  ((spec_Dyadic_Minus N ((v2.1.1, v2.1.2.1, ()), v2.2.1, ())).bind fun v3 => (spec_Dyadic_Add N ((v1.1.1, v1.1.2.1, ()), v1.2.1, ()) v3).bind fun v4 => (some ((v4.1.1, v4.1.2.1, ()), v4.2.1, ())))
def spec_Dyadic_Sub (N : Nat) (v1 : ((Bool × ((List Int) × Unit)) × (Int × Unit))) (v2 : ((Bool × ((List Int) × Unit)) × (Int × Unit))) : Option (((Bool × ((List Int) × Unit)) × (Int × Unit))) :=
  spec_Dyadic_Sub_g N v1 v2
set_option maxRecDepth 100000
theorem spec_Dyadic_Sub_t (N : Nat) (v1 : ((Bool × ((List Int) × Unit)) × (Int × Unit))) (v2 : ((Bool × ((List Int) × Unit)) × (Int × Unit))) : evF (spec_Dyadic_Sub_E N) [] Try.f99 [.k (.pair (.pair .bool (.pair (.list (.int .u32)) .unit)) (.pair (.int .i64) .unit)), .k (.pair (.pair .bool (.pair (.list (.int .u32)) .unit)) (.pair (.int .i64) .unit))] [(.pair (.pair .bool (.pair (.list (.int .u32)) .unit)) (.pair (.int .i64) .unit))] (v1, v2, ()) = spec_Dyadic_Sub N v1 v2 := by
  exact (show evF (spec_Dyadic_Sub_E N) [] Try.f99 [.k (.pair (.pair .bool (.pair (.list (.int .u32)) .unit)) (.pair (.int .i64) .unit)), .k (.pair (.pair .bool (.pair (.list (.int .u32)) .unit)) (.pair (.int .i64) .unit))] [(.pair (.pair .bool (.pair (.list (.int .u32)) .unit)) (.pair (.int .i64) .unit))] (v1, v2, ()) = spec_Dyadic_Sub_g N v1 v2 from by kernel_rfl).trans (by rfl)
noncomputable def spec_Dyadic_Sub_con (N : Nat) : Con := ⟨99, [.k (.pair (.pair .bool (.pair (.list (.int .u32)) .unit)) (.pair (.int .i64) .unit)), .k (.pair (.pair .bool (.pair (.list (.int .u32)) .unit)) (.pair (.int .i64) .unit))], [(.pair (.pair .bool (.pair (.list (.int .u32)) .unit)) (.pair (.int .i64) .unit))], fun x => spec_Dyadic_Sub N x.1 x.2.1⟩
theorem spec_Dyadic_Sub_s (N : Nat) : (spec_Dyadic_Sub_con N).Sound Try.prog :=
  Con.sound_of (c := spec_Dyadic_Sub_con N) (E := (spec_Dyadic_Sub_E N)) (idle := []) Try.func99 (by kernel_rfl) (by kernel_rfl) ⟨(allCons (spec_Dyadic_Minus_s N) (allCons (spec_Dyadic_Add_s N) allNil)), allNil⟩ allNil (fun x y h => (spec_Dyadic_Sub_t N x.1 x.2.1).trans h)
/-- (pub-orthodrome/spec.Whole).Mul -/
noncomputable def spec_Whole_Mul_E (N : Nat) : Env := ⟨Try.prog, N, [spec_trim_con N], [(0, ⟨[], [], [0, 1], [], none⟩), (1, ⟨[], [], [2, 3, 4], [2, 3, 4], none⟩), (2, ⟨[], [], [2, 3, 4, 5], [2, 3, 4, 19], none⟩), (3, ⟨[], [], [2, 3, 4, 5, 21, 22, 23], [2, 3, 4, 19], none⟩), (4, ⟨[], [], [2, 3, 4, 5, 21, 22, 23], [2, 3, 4, 19], none⟩), (5, ⟨[], [], [2, 3, 4, 5, 6, 7, 21, 22, 23], [2, 3, 4, 19], none⟩), (6, ⟨[], [], [2, 3, 4, 5, 6, 7, 8, 21, 22, 23], [2, 3, 4, 19], none⟩), (7, ⟨[], [], [2, 3, 4, 5, 6, 7, 8, 21, 22, 23, 29, 30, 31], [2, 3, 4, 19], none⟩), (8, ⟨[], [], [2, 3, 4, 5, 6, 7, 8, 21, 22, 23, 29, 30, 31], [2, 3, 4, 19], none⟩), (9, ⟨[], [], [2, 3, 4, 5, 6, 7, 8, 9, 10, 21, 22, 23, 29, 30, 31], [2, 3, 4, 19], none⟩), (10, ⟨[], [], [2, 3, 4, 5, 6, 7, 9, 11, 21, 22, 23, 29, 30, 31], [2, 3, 4, 19], none⟩), (11, ⟨[], [], [2, 3, 4, 5, 6, 7, 11, 21, 22, 23, 29, 30, 31], [2, 3, 4, 19], none⟩), (12, ⟨[], [], [2, 3, 4, 5, 6, 7, 8, 21, 22, 23, 29, 30, 31], [2, 3, 4, 19], none⟩), (13, ⟨[], [], [2, 3, 4, 5, 6, 8, 21, 22, 23], [2, 3, 4, 19], none⟩), (14, ⟨[], [], [2, 3, 4, 5, 21, 22, 23], [2, 3, 4, 19], none⟩), (15, ⟨[], [], [2, 3, 4, 5], [2, 3, 4, 19], none⟩), (16, ⟨[], [], [2, 3, 4, 5], [2, 3, 4], none⟩)], kdL [(129, (.int .u32))], []⟩
def spec_Whole_Mul_g1 (N : Nat) (v1 : (Bool × ((List Int) × Unit))) (v2 : (Bool × ((List Int) × Unit))) (v17 : Int) (v19 : Int) (r1 : Int → Int → (List Int) → Option ((Bool × ((List Int) × Unit)))) (r0 : Int → (List Int) → Option ((Bool × ((List Int) × Unit)))) (v24 : Int) (v25 : Int) (v26 : (List Int)) : Option ((Bool × ((List Int) × Unit))) :=
  (bif (decide ((v25 : Int) < (v2.2.1.length : Int))) then ((nth v2.2.1 v25).bind fun v27 => ((chk (IntKind.i64.wrap (v17 + v25)) v26.length).bind fun v28 => (v26[v28]?).bind fun v29 => ((chk (IntKind.i64.wrap (v17 + v25)) v26.length).bind fun v30 => ((r1 (Int.fdiv (IntKind.u64.wrap ((IntKind.u64.wrap ((IntKind.u64.wrap ((IntKind.u64.wrap v19) * (IntKind.u64.wrap v27))) + (IntKind.u64.wrap v29))) + v24)) (2 ^ (min (32 : Int).toNat (IntKind.bits .u64)))) (IntKind.i64.wrap (v25 + 1)) (v26.set v30 (IntKind.u32.wrap (IntKind.u64.wrap ((IntKind.u64.wrap ((IntKind.u64.wrap ((IntKind.u64.wrap v19) * (IntKind.u64.wrap v27))) + (IntKind.u64.wrap v29))) + v24))))))))) else ((chk (IntKind.i64.wrap (v17 + (v2.2.1.length : Int))) v26.length).bind fun v31 => ((r0 (IntKind.i64.wrap (v17 + 1)) (v26.set v31 (IntKind.u32.wrap v24))))))
def spec_Whole_Mul_l1 (N : Nat) (r0 : Int → (List Int) → Option ((Bool × ((List Int) × Unit)))) (v1 : (Bool × ((List Int) × Unit))) (v2 : (Bool × ((List Int) × Unit))) : Nat → Int → Int → Int → Int → (List Int) → Option ((Bool × ((List Int) × Unit)))
  | 0, _, _, _, _, _ => none
  | n + 1, v17, v19, v24, v25, v26 => spec_Whole_Mul_g1 N v1 v2 v17 v19 (spec_Whole_Mul_l1 N r0 v1 v2 n v17 v19) r0 v24 v25 v26
def spec_Whole_Mul_g0 (N : Nat) (v1 : (Bool × ((List Int) × Unit))) (v2 : (Bool × ((List Int) × Unit))) (c1 : Int → Int → Int → Int → (List Int) → Option ((Bool × ((List Int) × Unit)))) (r0 : Int → (List Int) → Option ((Bool × ((List Int) × Unit)))) (v17 : Int) (v18 : (List Int)) : Option ((Bool × ((List Int) × Unit))) :=
  (bif (decide ((v17 : Int) < (v1.2.1.length : Int))) then ((nth v1.2.1 v17).bind fun v19 => ((c1 v17 v19 0 0 v18))) else ((spec_trim N v18).bind fun v32 => (bif (decide (((v32.length : Int) : Int) > 0)) then (some ((!(v1.1 == v2.1)), v32, ())) else (some (false, v32, ())))))
def spec_Whole_Mul_l0 (N : Nat) : Nat → (Bool × ((List Int) × Unit)) → (Bool × ((List Int) × Unit)) → Int → (List Int) → Option ((Bool × ((List Int) × Unit)))
  | 0, _, _, _, _ => none
  | n + 1, v1, v2, v17, v18 => spec_Whole_Mul_g0 N v1 v2 (spec_Whole_Mul_l1 N (spec_Whole_Mul_l0 N n v1 v2) v1 v2 N) (spec_Whole_Mul_l0 N n v1 v2) v17 v18
def spec_Whole_Mul_g (N : Nat) (v1 : (Bool × ((List Int) × Unit))) (v2 : (Bool × ((List Int) × Unit))) (c0 : (Bool × ((List Int) × Unit)) → (Bool × ((List Int) × Unit)) → Int → (List Int) → Option ((Bool × ((List Int) × Unit)))) : Option ((Bool × ((List Int) × Unit))) :=
  ((mkn (IntKind.i64.wrap ((v1.2.1.length : Int) + (v2.2.1.length : Int))) (IntKind.i64.wrap ((v1.2.1.length : Int) + (v2.2.1.length : Int))) 4).bind fun v3 => ((c0 v1 v2 0 (List.replicate v3 (0 : Int)))))
def spec_Whole_Mul (N : Nat) (v1 : (Bool × ((List Int) × Unit))) (v2 : (Bool × ((List Int) × Unit))) : Option ((Bool × ((List Int) × Unit))) :=
  spec_Whole_Mul_g N v1 v2 (spec_Whole_Mul_l0 N N)
set_option maxRecDepth 100000
noncomputable def spec_Whole_Mul_e1 (N : Nat) (m0 : Nat) (v1 : (Bool × ((List Int) × Unit))) (v2 : (Bool × ((List Int) × Unit))) (n : Nat) (v17 : Int) (v19 : Int) (v24 : Int) (v25 : Int) (v26 : (List Int)) : Option (HR [(.pair .bool (.pair (.list (.int .u32)) .unit))]) :=
  loopN (advOf (spec_Whole_Mul_E N) (codeAt (bodyOf Try.f109) [1, 1, 0, 1, 0, 0, 1, 1, 0, 0, 1, 1, 0, 1, 0, 0])) (evC (spec_Whole_Mul_E N) (codeAt (bodyOf Try.f109) [1, 1, 0, 1, 0, 0, 1, 1, 0, 0, 1, 1, 0, 1, 0, 0])) n ⟨[(2, .ref 2 0), (3, .ref 3 0), (4, .ref 4 0), (5, .own (.int .u32) 19), (6, .pv (.int .i64) v17), (7, .pv (.int .u32) v19), (8, .pv (.int .u64) v24), (21, .pv (.list (.int .u32)) v1.2.1), (22, .pv (.int .i64) (v1.2.1.length : Int)), (23, .pv (.int .i64) v17), (29, .pv (.list (.int .u32)) v2.2.1), (30, .pv (.int .i64) (v2.2.1.length : Int)), (31, .pv (.int .i64) v25)], [(2, .box [.pv .bool v1.1, .pv (.list (.int .u32)) v1.2.1]), (3, .box [.pv .bool v2.1, .pv (.list (.int .u32)) v2.2.1]), (4, .box [.pv .bool false, .nils]), (19, .arr 129 (.int .u32) v26)], []⟩ (kBlock 2 (kSeq (advOf (spec_Whole_Mul_E N) (codeAt (bodyOf Try.f109) [1, 1, 0, 1, 0, 0, 1, 1, 0, 0, 1, 1, 1])) (evC (spec_Whole_Mul_E N) (codeAt (bodyOf Try.f109) [1, 1, 0, 1, 0, 0, 1, 1, 0, 0, 1, 1, 1])) (kBlock 1 (kSeq (advOf (spec_Whole_Mul_E N) (codeAt (bodyOf Try.f109) [1, 1, 0, 1, 0, 0, 1, 1, 1])) (evC (spec_Whole_Mul_E N) (codeAt (bodyOf Try.f109) [1, 1, 0, 1, 0, 0, 1, 1, 1])) (kSeq (advOf (spec_Whole_Mul_E N) (codeAt (bodyOf Try.f109) [1, 1, 0, 1, 0, 0])) (fun st K => loopN (advOf (spec_Whole_Mul_E N) (codeAt (bodyOf Try.f109) [1, 1, 0, 1, 0, 0])) (evC (spec_Whole_Mul_E N) (codeAt (bodyOf Try.f109) [1, 1, 0, 1, 0, 0])) m0 st K) (kBlock 0 (kSeq (advOf (spec_Whole_Mul_E N) (codeAt (bodyOf Try.f109) [1, 1, 1])) (evC (spec_Whole_Mul_E N) (codeAt (bodyOf Try.f109) [1, 1, 1])) (kEnd (spec_Whole_Mul_E N) [] Try.f109.results.toList [(.pair .bool (.pair (.list (.int .u32)) .unit))]))))))))
noncomputable def spec_Whole_Mul_e0 (N : Nat) (n : Nat) (v1 : (Bool × ((List Int) × Unit))) (v2 : (Bool × ((List Int) × Unit))) (v17 : Int) (v18 : (List Int)) : Option (HR [(.pair .bool (.pair (.list (.int .u32)) .unit))]) :=
  loopN (advOf (spec_Whole_Mul_E N) (codeAt (bodyOf Try.f109) [1, 1, 0, 1, 0, 0])) (evC (spec_Whole_Mul_E N) (codeAt (bodyOf Try.f109) [1, 1, 0, 1, 0, 0])) n ⟨[(2, .ref 2 0), (3, .ref 3 0), (4, .ref 4 0), (5, .own (.int .u32) 19), (21, .pv (.list (.int .u32)) v1.2.1), (22, .pv (.int .i64) (v1.2.1.length : Int)), (23, .pv (.int .i64) v17)], [(2, .box [.pv .bool v1.1, .pv (.list (.int .u32)) v1.2.1]), (3, .box [.pv .bool v2.1, .pv (.list (.int .u32)) v2.2.1]), (4, .box [.pv .bool false, .nils]), (19, .arr 129 (.int .u32) v18)], []⟩ (kBlock 0 (kSeq (advOf (spec_Whole_Mul_E N) (codeAt (bodyOf Try.f109) [1, 1, 1])) (evC (spec_Whole_Mul_E N) (codeAt (bodyOf Try.f109) [1, 1, 1])) (kEnd (spec_Whole_Mul_E N) [] Try.f109.results.toList [(.pair .bool (.pair (.list (.int .u32)) .unit))])))
theorem spec_Whole_Mul_t1 (N : Nat) (m0 : Nat) (v1 : (Bool × ((List Int) × Unit))) (v2 : (Bool × ((List Int) × Unit))) : ∀ (n : Nat) (v17 : Int) (v19 : Int) (v24 : Int) (v25 : Int) (v26 : (List Int)), spec_Whole_Mul_e1 N m0 v1 v2 n v17 v19 v24 v25 v26 = spec_Whole_Mul_l1 N (spec_Whole_Mul_e0 N m0 v1 v2) v1 v2 n v17 v19 v24 v25 v26
  | 0, _, _, _, _, _ => rfl
  | n + 1, v17, v19, v24, v25, v26 => by
    have h : spec_Whole_Mul_e1 N m0 v1 v2 n v17 v19 = spec_Whole_Mul_l1 N (spec_Whole_Mul_e0 N m0 v1 v2) v1 v2 n v17 v19 := by funext v24 v25 v26; exact spec_Whole_Mul_t1 N m0 v1 v2 n v17 v19 v24 v25 v26
    exact (show spec_Whole_Mul_e1 N m0 v1 v2 (n + 1) v17 v19 v24 v25 v26 = spec_Whole_Mul_g1 N v1 v2 v17 v19 (spec_Whole_Mul_e1 N m0 v1 v2 n v17 v19) (spec_Whole_Mul_e0 N m0 v1 v2) v24 v25 v26 from by kernel_rfl).trans (by rw [h]; rfl)
theorem spec_Whole_Mul_t0 (N : Nat) : ∀ (n : Nat) (v1 : (Bool × ((List Int) × Unit))) (v2 : (Bool × ((List Int) × Unit))) (v17 : Int) (v18 : (List Int)), spec_Whole_Mul_e0 N n v1 v2 v17 v18 = spec_Whole_Mul_l0 N n v1 v2 v17 v18
  | 0, _, _, _, _ => rfl
  | n + 1, v1, v2, v17, v18 => by
    have h1 : (spec_Whole_Mul_e1 N n v1 v2 N) = (spec_Whole_Mul_l1 N (spec_Whole_Mul_e0 N n v1 v2) v1 v2 N) := by funext v17 v19 v24 v25 v26; exact spec_Whole_Mul_t1 N n v1 v2 N v17 v19 v24 v25 v26
    have h : spec_Whole_Mul_e0 N n v1 v2 = spec_Whole_Mul_l0 N n v1 v2 := by funext v17 v18; exact spec_Whole_Mul_t0 N n v1 v2 v17 v18
    exact (show spec_Whole_Mul_e0 N (n + 1) v1 v2 v17 v18 = spec_Whole_Mul_g0 N v1 v2 (spec_Whole_Mul_e1 N n v1 v2 N) (spec_Whole_Mul_e0 N n v1 v2) v17 v18 from by kernel_rfl).trans (by rw [h1, h]; rfl)
theorem spec_Whole_Mul_t (N : Nat) (v1 : (Bool × ((List Int) × Unit))) (v2 : (Bool × ((List Int) × Unit))) : evF (spec_Whole_Mul_E N) [] Try.f109 [.k (.pair .bool (.pair (.list (.int .u32)) .unit)), .k (.pair .bool (.pair (.list (.int .u32)) .unit))] [(.pair .bool (.pair (.list (.int .u32)) .unit))] (v1, v2, ()) = spec_Whole_Mul N v1 v2 := by
  have h0 : (spec_Whole_Mul_e0 N N) = (spec_Whole_Mul_l0 N N) := by funext v1 v2 v17 v18; exact spec_Whole_Mul_t0 N N v1 v2 v17 v18
  exact (show evF (spec_Whole_Mul_E N) [] Try.f109 [.k (.pair .bool (.pair (.list (.int .u32)) .unit)), .k (.pair .bool (.pair (.list (.int .u32)) .unit))] [(.pair .bool (.pair (.list (.int .u32)) .unit))] (v1, v2, ()) = spec_Whole_Mul_g N v1 v2 (spec_Whole_Mul_e0 N N) from by kernel_rfl).trans (by rw [h0]; rfl)
noncomputable def spec_Whole_Mul_con (N : Nat) : Con := ⟨109, [.k (.pair .bool (.pair (.list (.int .u32)) .unit)), .k (.pair .bool (.pair (.list (.int .u32)) .unit))], [(.pair .bool (.pair (.list (.int .u32)) .unit))], fun x => spec_Whole_Mul N x.1 x.2.1⟩
theorem spec_Whole_Mul_s (N : Nat) : (spec_Whole_Mul_con N).Sound Try.prog :=
  Con.sound_of (c := spec_Whole_Mul_con N) (E := (spec_Whole_Mul_E N)) (idle := []) Try.func109 (by kernel_rfl) (by kernel_rfl) ⟨(allCons (spec_trim_s N) allNil), allNil⟩ allNil (fun x y h => (spec_Whole_Mul_t N x.1 x.2.1).trans h)
/-- (pub-orthodrome/spec.Dyadic).Mul -/
noncomputable def spec_Dyadic_Mul_E (N : Nat) : Env := ⟨Try.prog, N, [spec_Whole_Mul_con N], [(0, ⟨[], [], [0, 1], [], none⟩), (1, ⟨[], [], [2, 3, 4], [2, 3, 4], none⟩)], kdL [], []⟩
def spec_Dyadic_Mul_g (N : Nat) (v1 : ((Bool × ((List Int) × Unit)) × (Int × Unit))) (v2 : ((Bool × ((List Int) × Unit)) × (Int × Unit))) : Option (((Bool × ((List Int) × Unit)) × (Int × Unit))) :=
  ((spec_Whole_Mul N (v1.1.1, v1.1.2.1, ()) (v2.1.1, v2.1.2.1, ())).bind fun v3 => (some ((v3.1, v3.2.1, ()), (IntKind.i64.wrap (v1.2.1 + v2.2.1)), ())))
def spec_Dyadic_Mul (N : Nat) (v1 : ((Bool × ((List Int) × Unit)) × (Int × Unit))) (v2 : ((Bool × ((List Int) × Unit)) × (Int × Unit))) : Option (((Bool × ((List Int) × Unit)) × (Int × Unit))) :=
  spec_Dyadic_Mul_g N v1 v2
set_option maxRecDepth 100000
theorem spec_Dyadic_Mul_t (N : Nat) (v1 : ((Bool × ((List Int) × Unit)) × (Int × Unit))) (v2 : ((Bool × ((List Int) × Unit)) × (Int × Unit))) : evF (spec_Dyadic_Mul_E N) [] Try.f81 [.k (.pair (.pair .bool (.pair (.list (.int .u32)) .unit)) (.pair (.int .i64) .unit)), .k (.pair (.pair .bool (.pair (.list (.int .u32)) .unit)) (.pair (.int .i64) .unit))] [(.pair (.pair .bool (.pair (.list (.int .u32)) .unit)) (.pair (.int .i64) .unit))] (v1, v2, ()) = spec_Dyadic_Mul N v1 v2 := by
  exact (show evF (spec_Dyadic_Mul_E N) [] Try.f81 [.k (.pair (.pair .bool (.pair (.list (.int .u32)) .unit)) (.pair (.int .i64) .unit)), .k (.pair (.pair .bool (.pair (.list (.int .u32)) .unit)) (.pair (.int .i64) .unit))] [(.pair (.pair .bool (.pair (.list (.int .u32)) .unit)) (.pair (.int .i64) .unit))] (v1, v2, ()) = spec_Dyadic_Mul_g N v1 v2 from by kernel_rfl).trans (by rfl)
noncomputable def spec_Dyadic_Mul_con (N : Nat) : Con := ⟨81, [.k (.pair (.pair .bool (.pair (.list (.int .u32)) .unit)) (.pair (.int .i64) .unit)), .k (.pair (.pair .bool (.pair (.list (.int .u32)) .unit)) (.pair (.int .i64) .unit))], [(.pair (.pair .bool (.pair (.list (.int .u32)) .unit)) (.pair (.int .i64) .unit))], fun x => spec_Dyadic_Mul N x.1 x.2.1⟩
theorem spec_Dyadic_Mul_s (N : Nat) : (spec_Dyadic_Mul_con N).Sound Try.prog :=
  Con.sound_of (c := spec_Dyadic_Mul_con N) (E := (spec_Dyadic_Mul_E N)) (idle := []) Try.func81 (by kernel_rfl) (by kernel_rfl) ⟨(allCons (spec_Whole_Mul_s N) allNil), allNil⟩ allNil (fun x y h => (spec_Dyadic_Mul_t N x.1 x.2.1).trans h)
/-- pub-orthodrome/spec.Dot -/
noncomputable def spec_Dot_E (N : Nat) : Env := ⟨Try.prog, N, [spec_Dyadic_Sub_con N, spec_Dyadic_Mul_con N, spec_Dyadic_Add_con N], [(0, ⟨[], [], [0, 1, 2, 3], [], none⟩), (1, ⟨[], [], [4, 5, 6, 7, 8], [4, 5, 6, 7, 8], none⟩)], kdL [], []⟩
def spec_Dot_g (N : Nat) (v1 : (((Bool × ((List Int) × Unit)) × (Int × Unit)) × (((Bool × ((List Int) × Unit)) × (Int × Unit)) × Unit))) (v2 : (((Bool × ((List Int) × Unit)) × (Int × Unit)) × (((Bool × ((List Int) × Unit)) × (Int × Unit)) × Unit))) (v3 : (((Bool × ((List Int) × Unit)) × (Int × Unit)) × (((Bool × ((List Int) × Unit)) × (Int × Unit)) × Unit))) (v4 : (((Bool × ((List Int) × Unit)) × (Int × Unit)) × (((Bool × ((List Int) × Unit)) × (Int × Unit)) × Unit))) : Option (((Bool × ((List Int) × Unit)) × (Int × Unit))) :=
  ((spec_Dyadic_Sub N ((v2.1.1.1, v2.1.1.2.1, ()), v2.1.2.1, ()) ((v1.1.1.1, v1.1.1.2.1, ()), v1.1.2.1, ())).bind fun v5 => (spec_Dyadic_Sub N ((v4.1.1.1, v4.1.1.2.1, ()), v4.1.2.1, ()) ((v3.1.1.1, v3.1.1.2.1, ()), v3.1.2.1, ())).bind fun v6 => (spec_Dyadic_Mul N v5 v6).bind fun v7 => (spec_Dyadic_Sub N ((v2.2.1.1.1, v2.2.1.1.2.1, ()), v2.2.1.2.1, ()) ((v1.2.1.1.1, v1.2.1.1.2.1, ()), v1.2.1.2.1, ())).bind fun v8 => (spec_Dyadic_Sub N ((v4.2.1.1.1, v4.2.1.1.2.1, ()), v4.2.1.2.1, ()) ((v3.2.1.1.1, v3.2.1.1.2.1, ()), v3.2.1.2.1, ())).bind fun v9 => (spec_Dyadic_Mul N v8 v9).bind fun v10 => (spec_Dyadic_Add N v7 v10).bind fun v11 => (some ((v11.1.1, v11.1.2.1, ()), v11.2.1, ())))
def spec_Dot (N : Nat) (v1 : (((Bool × ((List Int) × Unit)) × (Int × Unit)) × (((Bool × ((List Int) × Unit)) × (Int × Unit)) × Unit))) (v2 : (((Bool × ((List Int) × Unit)) × (Int × Unit)) × (((Bool × ((List Int) × Unit)) × (Int × Unit)) × Unit))) (v3 : (((Bool × ((List Int) × Unit)) × (Int × Unit)) × (((Bool × ((List Int) × Unit)) × (Int × Unit)) × Unit))) (v4 : (((Bool × ((List Int) × Unit)) × (Int × Unit)) × (((Bool × ((List Int) × Unit)) × (Int × Unit)) × Unit))) : Option (((Bool × ((List Int) × Unit)) × (Int × Unit))) :=
  spec_Dot_g N v1 v2 v3 v4
set_option maxRecDepth 100000
theorem spec_Dot_t (N : Nat) (v1 : (((Bool × ((List Int) × Unit)) × (Int × Unit)) × (((Bool × ((List Int) × Unit)) × (Int × Unit)) × Unit))) (v2 : (((Bool × ((List Int) × Unit)) × (Int × Unit)) × (((Bool × ((List Int) × Unit)) × (Int × Unit)) × Unit))) (v3 : (((Bool × ((List Int) × Unit)) × (Int × Unit)) × (((Bool × ((List Int) × Unit)) × (Int × Unit)) × Unit))) (v4 : (((Bool × ((List Int) × Unit)) × (Int × Unit)) × (((Bool × ((List Int) × Unit)) × (Int × Unit)) × Unit))) : evF (spec_Dot_E N) [] Try.f77 [.k (.pair (.pair (.pair .bool (.pair (.list (.int .u32)) .unit)) (.pair (.int .i64) .unit)) (.pair (.pair (.pair .bool (.pair (.list (.int .u32)) .unit)) (.pair (.int .i64) .unit)) .unit)), .k (.pair (.pair (.pair .bool (.pair (.list (.int .u32)) .unit)) (.pair (.int .i64) .unit)) (.pair (.pair (.pair .bool (.pair (.list (.int .u32)) .unit)) (.pair (.int .i64) .unit)) .unit)), .k (.pair (.pair (.pair .bool (.pair (.list (.int .u32)) .unit)) (.pair (.int .i64) .unit)) (.pair (.pair (.pair .bool (.pair (.list (.int .u32)) .unit)) (.pair (.int .i64) .unit)) .unit)), .k (.pair (.pair (.pair .bool (.pair (.list (.int .u32)) .unit)) (.pair (.int .i64) .unit)) (.pair (.pair (.pair .bool (.pair (.list (.int .u32)) .unit)) (.pair (.int .i64) .unit)) .unit))] [(.pair (.pair .bool (.pair (.list (.int .u32)) .unit)) (.pair (.int .i64) .unit))] (v1, v2, v3, v4, ()) = spec_Dot N v1 v2 v3 v4 := by
  exact (show evF (spec_Dot_E N) [] Try.f77 [.k (.pair (.pair (.pair .bool (.pair (.list (.int .u32)) .unit)) (.pair (.int .i64) .unit)) (.pair (.pair (.pair .bool (.pair (.list (.int .u32)) .unit)) (.pair (.int .i64) .unit)) .unit)), .k (.pair (.pair (.pair .bool (.pair (.list (.int .u32)) .unit)) (.pair (.int .i64) .unit)) (.pair (.pair (.pair .bool (.pair (.list (.int .u32)) .unit)) (.pair (.int .i64) .unit)) .unit)), .k (.pair (.pair (.pair .bool (.pair (.list (.int .u32)) .unit)) (.pair (.int .i64) .unit)) (.pair (.pair (.pair .bool (.pair (.list (.int .u32)) .unit)) (.pair (.int .i64) .unit)) .unit)), .k (.pair (.pair (.pair .bool (.pair (.list (.int .u32)) .unit)) (.pair (.int .i64) .unit)) (.pair (.pair (.pair .bool (.pair (.list (.int .u32)) .unit)) (.pair (.int .i64) .unit)) .unit))] [(.pair (.pair .bool (.pair (.list (.int .u32)) .unit)) (.pair (.int .i64) .unit))] (v1, v2, v3, v4, ()) = spec_Dot_g N v1 v2 v3 v4 from by kernel_rfl).trans (by rfl)
noncomputable def spec_Dot_con (N : Nat) : Con := ⟨77, [.k (.pair (.pair (.pair .bool (.pair (.list (.int .u32)) .unit)) (.pair (.int .i64) .unit)) (.pair (.pair (.pair .bool (.pair (.list (.int .u32)) .unit)) (.pair (.int .i64) .unit)) .unit)), .k (.pair (.pair (.pair .bool (.pair (.list (.int .u32)) .unit)) (.pair (.int .i64) .unit)) (.pair (.pair (.pair .bool (.pair (.list (.int .u32)) .unit)) (.pair (.int .i64) .unit)) .unit)), .k (.pair (.pair (.pair .bool (.pair (.list (.int .u32)) .unit)) (.pair (.int .i64) .unit)) (.pair (.pair (.pair .bool (.pair (.list (.int .u32)) .unit)) (.pair (.int .i64) .unit)) .unit)), .k (.pair (.pair (.pair .bool (.pair (.list (.int .u32)) .unit)) (.pair (.int .i64) .unit)) (.pair (.pair (.pair .bool (.pair (.list (.int .u32)) .unit)) (.pair (.int .i64) .unit)) .unit))], [(.pair (.pair .bool (.pair (.list (.int .u32)) .unit)) (.pair (.int .i64) .unit))], fun x => spec_Dot N x.1 x.2.1 x.2.2.1 x.2.2.2.1⟩
theorem spec_Dot_s (N : Nat) : (spec_Dot_con N).Sound Try.prog :=
  Con.sound_of (c := spec_Dot_con N) (E := (spec_Dot_E N)) (idle := []) Try.func77 (by kernel_rfl) (by kernel_rfl) ⟨(allCons (spec_Dyadic_Sub_s N) (allCons (spec_Dyadic_Mul_s N) (allCons (spec_Dyadic_Add_s N) allNil))), allNil⟩ allNil (fun x y h => (spec_Dot_t N x.1 x.2.1 x.2.2.1 x.2.2.2.1).trans h)
/-- pub-orthodrome/spec.Square -/
noncomputable def spec_Square_E (N : Nat) : Env := ⟨Try.prog, N, [spec_Dot_con N], [(0, ⟨[], [], [0, 1], [], none⟩), (1, ⟨[], [], [2, 3, 4], [2, 3, 4], none⟩)], kdL [], []⟩
def spec_Square_g (N : Nat) (v1 : (((Bool × ((List Int) × Unit)) × (Int × Unit)) × (((Bool × ((List Int) × Unit)) × (Int × Unit)) × Unit))) (v2 : (((Bool × ((List Int) × Unit)) × (Int × Unit)) × (((Bool × ((List Int) × Unit)) × (Int × Unit)) × Unit))) : Option (((Bool × ((List Int) × Unit)) × (Int × Unit))) :=
  ((spec_Dot N (((v1.1.1.1, v1.1.1.2.1, ()), v1.1.2.1, ()), ((v1.2.1.1.1, v1.2.1.1.2.1, ()), v1.2.1.2.1, ()), ()) (((v2.1.1.1, v2.1.1.2.1, ()), v2.1.2.1, ()), ((v2.2.1.1.1, v2.2.1.1.2.1, ()), v2.2.1.2.1, ()), ()) (((v1.1.1.1, v1.1.1.2.1, ()), v1.1.2.1, ()), ((v1.2.1.1.1, v1.2.1.1.2.1, ()), v1.2.1.2.1, ()), ()) (((v2.1.1.1, v2.1.1.2.1, ()), v2.1.2.1, ()), ((v2.2.1.1.1, v2.2.1.1.2.1, ()), v2.2.1.2.1, ()), ())).bind fun v3 => (some ((v3.1.1, v3.1.2.1, ()), v3.2.1, ())))
def spec_Square (N : Nat) (v1 : (((Bool × ((List Int) × Unit)) × (Int × Unit)) × (((Bool × ((List Int) × Unit)) × (Int × Unit)) × Unit))) (v2 : (((Bool × ((List Int) × Unit)) × (Int × Unit)) × (((Bool × ((List Int) × Unit)) × (Int × Unit)) × Unit))) : Option (((Bool × ((List Int) × Unit)) × (Int × Unit))) :=
  spec_Square_g N v1 v2
set_option maxRecDepth 100000
theorem spec_Square_t (N : Nat) (v1 : (((Bool × ((List Int) × Unit)) × (Int × Unit)) × (((Bool × ((List Int) × Unit)) × (Int × Unit)) × Unit))) (v2 : (((Bool × ((List Int) × Unit)) × (Int × Unit)) × (((Bool × ((List Int) × Unit)) × (Int × Unit)) × Unit))) : evF (spec_Square_E N) [] Try.f76 [.k (.pair (.pair (.pair .bool (.pair (.list (.int .u32)) .unit)) (.pair (.int .i64) .unit)) (.pair (.pair (.pair .bool (.pair (.list (.int .u32)) .unit)) (.pair (.int .i64) .unit)) .unit)), .k (.pair (.pair (.pair .bool (.pair (.list (.int .u32)) .unit)) (.pair (.int .i64) .unit)) (.pair (.pair (.pair .bool (.pair (.list (.int .u32)) .unit)) (.pair (.int .i64) .unit)) .unit))] [(.pair (.pair .bool (.pair (.list (.int .u32)) .unit)) (.pair (.int .i64) .unit))] (v1, v2, ()) = spec_Square N v1 v2 := by
  exact (show evF (spec_Square_E N) [] Try.f76 [.k (.pair (.pair (.pair .bool (.pair (.list (.int .u32)) .unit)) (.pair (.int .i64) .unit)) (.pair (.pair (.pair .bool (.pair (.list (.int .u32)) .unit)) (.pair (.int .i64) .unit)) .unit)), .k (.pair (.pair (.pair .bool (.pair (.list (.int .u32)) .unit)) (.pair (.int .i64) .unit)) (.pair (.pair (.pair .bool (.pair (.list (.int .u32)) .unit)) (.pair (.int .i64) .unit)) .unit))] [(.pair (.pair .bool (.pair (.list (.int .u32)) .unit)) (.pair (.int .i64) .unit))] (v1, v2, ()) = spec_Square_g N v1 v2 from by kernel_rfl).trans (by rfl)
noncomputable def spec_Square_con (N : Nat) : Con := ⟨76, [.k (.pair (.pair (.pair .bool (.pair (.list (.int .u32)) .unit)) (.pair (.int .i64) .unit)) (.pair (.pair (.pair .bool (.pair (.list (.int .u32)) .unit)) (.pair (.int .i64) .unit)) .unit)), .k (.pair (.pair (.pair .bool (.pair (.list (.int .u32)) .unit)) (.pair (.int .i64) .unit)) (.pair (.pair (.pair .bool (.pair (.list (.int .u32)) .unit)) (.pair (.int .i64) .unit)) .unit))], [(.pair (.pair .bool (.pair (.list (.int .u32)) .unit)) (.pair (.int .i64) .unit))], fun x => spec_Square N x.1 x.2.1⟩
theorem spec_Square_s (N : Nat) : (spec_Square_con N).Sound Try.prog :=
  Con.sound_of (c := spec_Square_con N) (E := (spec_Square_E N)) (idle := []) Try.func76 (by kernel_rfl) (by kernel_rfl) ⟨(allCons (spec_Dot_s N) allNil), allNil⟩ allNil (fun x y h => (spec_Square_t N x.1 x.2.1).trans h)
/-- pub-orthodrome/spec.IntOf -/
noncomputable def spec_IntOf_E (N : Nat) : Env := ⟨Try.prog, N, [spec_WholeOf_con N], [(0, ⟨[], [], [0], [], none⟩), (1, ⟨[], [], [0, 2], [2], none⟩)], kdL [], []⟩
def spec_IntOf_g (N : Nat) (v1 : Int) : Option (((Bool × ((List Int) × Unit)) × (Int × Unit))) :=
  ((spec_WholeOf N v1).bind fun v2 => (some ((v2.1, v2.2.1, ()), 0, ())))
def spec_IntOf (N : Nat) (v1 : Int) : Option (((Bool × ((List Int) × Unit)) × (Int × Unit))) :=
  spec_IntOf_g N v1
set_option maxRecDepth 100000
theorem spec_IntOf_t (N : Nat) (v1 : Int) : evF (spec_IntOf_E N) [] Try.f78 [.k (.int .i64)] [(.pair (.pair .bool (.pair (.list (.int .u32)) .unit)) (.pair (.int .i64) .unit))] (v1, ()) = spec_IntOf N v1 := by
  exact (show evF (spec_IntOf_E N) [] Try.f78 [.k (.int .i64)] [(.pair (.pair .bool (.pair (.list (.int .u32)) .unit)) (.pair (.int .i64) .unit))] (v1, ()) = spec_IntOf_g N v1 from by kernel_rfl).trans (by rfl)
noncomputable def spec_IntOf_con (N : Nat) : Con := ⟨78, [.k (.int .i64)], [(.pair (.pair .bool (.pair (.list (.int .u32)) .unit)) (.pair (.int .i64) .unit))], fun x => spec_IntOf N x.1⟩
theorem spec_IntOf_s (N : Nat) : (spec_IntOf_con N).Sound Try.prog :=
  Con.sound_of (c := spec_IntOf_con N) (E := (spec_IntOf_E N)) (idle := []) Try.func78 (by kernel_rfl) (by kernel_rfl) ⟨(allCons (spec_WholeOf_s N) allNil), allNil⟩ allNil (fun x y h => (spec_IntOf_t N x.1).trans h)
/-- (pub-orthodrome/spec.Dyadic).Cmp -/
noncomputable def spec_Dyadic_Cmp_E (N : Nat) : Env := ⟨Try.prog, N, [spec_Dyadic_Sub_con N, spec_Dyadic_Sign_con N], [(0, ⟨[], [], [0, 1], [], none⟩), (1, ⟨[], [], [2, 3], [2, 3], none⟩)], kdL [], []⟩
def spec_Dyadic_Cmp_g (N : Nat) (v1 : ((Bool × ((List Int) × Unit)) × (Int × Unit))) (v2 : ((Bool × ((List Int) × Unit)) × (Int × Unit))) : Option (Int) :=
  ((spec_Dyadic_Sub N ((v1.1.1, v1.1.2.1, ()), v1.2.1, ()) ((v2.1.1, v2.1.2.1, ()), v2.2.1, ())).bind fun v3 => (spec_Dyadic_Sign N v3).bind fun v4 => (some v4))
def spec_Dyadic_Cmp (N : Nat) (v1 : ((Bool × ((List Int) × Unit)) × (Int × Unit))) (v2 : ((Bool × ((List Int) × Unit)) × (Int × Unit))) : Option (Int) :=
  spec_Dyadic_Cmp_g N v1 v2
set_option maxRecDepth 100000
theorem spec_Dyadic_Cmp_t (N : Nat) (v1 : ((Bool × ((List Int) × Unit)) × (Int × Unit))) (v2 : ((Bool × ((List Int) × Unit)) × (Int × Unit))) : evF (spec_Dyadic_Cmp_E N) [] Try.f79 [.k (.pair (.pair .bool (.pair (.list (.int .u32)) .unit)) (.pair (.int .i64) .unit)), .k (.pair (.pair .bool (.pair (.list (.int .u32)) .unit)) (.pair (.int .i64) .unit))] [(.int .i64)] (v1, v2, ()) = spec_Dyadic_Cmp N v1 v2 := by
  exact (show evF (spec_Dyadic_Cmp_E N) [] Try.f79 [.k (.pair (.pair .bool (.pair (.list (.int .u32)) .unit)) (.pair (.int .i64) .unit)), .k (.pair (.pair .bool (.pair (.list (.int .u32)) .unit)) (.pair (.int .i64) .unit))] [(.int .i64)] (v1, v2, ()) = spec_Dyadic_Cmp_g N v1 v2 from by kernel_rfl).trans (by rfl)
noncomputable def spec_Dyadic_Cmp_con (N : Nat) : Con := ⟨79, [.k (.pair (.pair .bool (.pair (.list (.int .u32)) .unit)) (.pair (.int .i64) .unit)), .k (.pair (.pair .bool (.pair (.list (.int .u32)) .unit)) (.pair (.int .i64) .unit))], [(.int .i64)], fun x => spec_Dyadic_Cmp N x.1 x.2.1⟩
theorem spec_Dyadic_Cmp_s (N : Nat) : (spec_Dyadic_Cmp_con N).Sound Try.prog :=
  Con.sound_of (c := spec_Dyadic_Cmp_con N) (E := (spec_Dyadic_Cmp_E N)) (idle := []) Try.func79 (by kernel_rfl) (by kernel_rfl) ⟨(allCons (spec_Dyadic_Sub_s N) (allCons (spec_Dyadic_Sign_s N) allNil)), allNil⟩ allNil (fun x y h => (spec_Dyadic_Cmp_t N x.1 x.2.1).trans h)
/-- pub-orthodrome/spec.Cross -/
noncomputable def spec_Cross_E (N : Nat) : Env := ⟨Try.prog, N, [spec_Dyadic_Sub_con N, spec_Dyadic_Mul_con N], [(0, ⟨[], [], [0, 1, 2], [], none⟩), (1, ⟨[], [], [3, 4, 5, 6], [3, 4, 5, 6], none⟩)], kdL [], []⟩
def spec_Cross_g (N : Nat) (v1 : (((Bool × ((List Int) × Unit)) × (Int × Unit)) × (((Bool × ((List Int) × Unit)) × (Int × Unit)) × Unit))) (v2 : (((Bool × ((List Int) × Unit)) × (Int × Unit)) × (((Bool × ((List Int) × Unit)) × (Int × Unit)) × Unit))) (v3 : (((Bool × ((List Int) × Unit)) × (Int × Unit)) × (((Bool × ((List Int) × Unit)) × (Int × Unit)) × Unit))) : Option (((Bool × ((List Int) × Unit)) × (Int × Unit))) :=
  ((spec_Dyadic_Sub N ((v2.1.1.1, v2.1.1.2.1, ()), v2.1.2.1, ()) ((v1.1.1.1, v1.1.1.2.1, ()), v1.1.2.1, ())).bind fun v4 => (spec_Dyadic_Sub N ((v3.2.1.1.1, v3.2.1.1.2.1, ()), v3.2.1.2.1, ()) ((v1.2.1.1.1, v1.2.1.1.2.1, ()), v1.2.1.2.1, ())).bind fun v5 => (spec_Dyadic_Mul N v4 v5).bind fun v6 => (spec_Dyadic_Sub N ((v2.2.1.1.1, v2.2.1.1.2.1, ()), v2.2.1.2.1, ()) ((v1.2.1.1.1, v1.2.1.1.2.1, ()), v1.2.1.2.1, ())).bind fun v7 => (spec_Dyadic_Sub N ((v3.1.1.1, v3.1.1.2.1, ()), v3.1.2.1, ()) ((v1.1.1.1, v1.1.1.2.1, ()), v1.1.2.1, ())).bind fun v8 => (spec_Dyadic_Mul N v7 v8).bind fun v9 => (spec_Dyadic_Sub N v6 v9).bind fun v10 => (some ((v10.1.1, v10.1.2.1, ()), v10.2.1, ())))
def spec_Cross (N : Nat) (v1 : (((Bool × ((List Int) × Unit)) × (Int × Unit)) × (((Bool × ((List Int) × Unit)) × (Int × Unit)) × Unit))) (v2 : (((Bool × ((List Int) × Unit)) × (Int × Unit)) × (((Bool × ((List Int) × Unit)) × (Int × Unit)) × Unit))) (v3 : (((Bool × ((List Int) × Unit)) × (Int × Unit)) × (((Bool × ((List Int) × Unit)) × (Int × Unit)) × Unit))) : Option (((Bool × ((List Int) × Unit)) × (Int × Unit))) :=
  spec_Cross_g N v1 v2 v3
set_option maxRecDepth 100000
theorem spec_Cross_t (N : Nat) (v1 : (((Bool × ((List Int) × Unit)) × (Int × Unit)) × (((Bool × ((List Int) × Unit)) × (Int × Unit)) × Unit))) (v2 : (((Bool × ((List Int) × Unit)) × (Int × Unit)) × (((Bool × ((List Int) × Unit)) × (Int × Unit)) × Unit))) (v3 : (((Bool × ((List Int) × Unit)) × (Int × Unit)) × (((Bool × ((List Int) × Unit)) × (Int × Unit)) × Unit))) : evF (spec_Cross_E N) [] Try.f80 [.k (.pair (.pair (.pair .bool (.pair (.list (.int .u32)) .unit)) (.pair (.int .i64) .unit)) (.pair (.pair (.pair .bool (.pair (.list (.int .u32)) .unit)) (.pair (.int .i64) .unit)) .unit)), .k (.pair (.pair (.pair .bool (.pair (.list (.int .u32)) .unit)) (.pair (.int .i64) .unit)) (.pair (.pair (.pair .bool (.pair (.list (.int .u32)) .unit)) (.pair (.int .i64) .unit)) .unit)), .k (.pair (.pair (.pair .bool (.pair (.list (.int .u32)) .unit)) (.pair (.int .i64) .unit)) (.pair (.pair (.pair .bool (.pair (.list (.int .u32)) .unit)) (.pair (.int .i64) .unit)) .unit))] [(.pair (.pair .bool (.pair (.list (.int .u32)) .unit)) (.pair (.int .i64) .unit))] (v1, v2, v3, ()) = spec_Cross N v1 v2 v3 := by
  exact (show evF (spec_Cross_E N) [] Try.f80 [.k (.pair (.pair (.pair .bool (.pair (.list (.int .u32)) .unit)) (.pair (.int .i64) .unit)) (.pair (.pair (.pair .bool (.pair (.list (.int .u32)) .unit)) (.pair (.int .i64) .unit)) .unit)), .k (.pair (.pair (.pair .bool (.pair (.list (.int .u32)) .unit)) (.pair (.int .i64) .unit)) (.pair (.pair (.pair .bool (.pair (.list (.int .u32)) .unit)) (.pair (.int .i64) .unit)) .unit)), .k (.pair (.pair (.pair .bool (.pair (.list (.int .u32)) .unit)) (.pair (.int .i64) .unit)) (.pair (.pair (.pair .bool (.pair (.list (.int .u32)) .unit)) (.pair (.int .i64) .unit)) .unit))] [(.pair (.pair .bool (.pair (.list (.int .u32)) .unit)) (.pair (.int .i64) .unit))] (v1, v2, v3, ()) = spec_Cross_g N v1 v2 v3 from by kernel_rfl).trans (by rfl)
noncomputable def spec_Cross_con (N : Nat) : Con := ⟨80, [.k (.pair (.pair (.pair .bool (.pair (.list (.int .u32)) .unit)) (.pair (.int .i64) .unit)) (.pair (.pair (.pair .bool (.pair (.list (.int .u32)) .unit)) (.pair (.int .i64) .unit)) .unit)), .k (.pair (.pair (.pair .bool (.pair (.list (.int .u32)) .unit)) (.pair (.int .i64) .unit)) (.pair (.pair (.pair .bool (.pair (.list (.int .u32)) .unit)) (.pair (.int .i64) .unit)) .unit)), .k (.pair (.pair (.pair .bool (.pair (.list (.int .u32)) .unit)) (.pair (.int .i64) .unit)) (.pair (.pair (.pair .bool (.pair (.list (.int .u32)) .unit)) (.pair (.int .i64) .unit)) .unit))], [(.pair (.pair .bool (.pair (.list (.int .u32)) .unit)) (.pair (.int .i64) .unit))], fun x => spec_Cross N x.1 x.2.1 x.2.2.1⟩
theorem spec_Cross_s (N : Nat) : (spec_Cross_con N).Sound Try.prog :=
  Con.sound_of (c := spec_Cross_con N) (E := (spec_Cross_E N)) (idle := []) Try.func80 (by kernel_rfl) (by kernel_rfl) ⟨(allCons (spec_Dyadic_Sub_s N) (allCons (spec_Dyadic_Mul_s N) allNil)), allNil⟩ allNil (fun x y h => (spec_Cross_t N x.1 x.2.1 x.2.2.1).trans h)
/-- pub-orthodrome/spec.SquareTo -/
noncomputable def spec_SquareTo_E (N : Nat) : Env := ⟨Try.prog, N, [spec_Square_con N, spec_Dot_con N, spec_IntOf_con N, spec_Dyadic_Sign_con N, spec_Dyadic_Cmp_con N, spec_Cross_con N, spec_Dyadic_Mul_con N], [(0, ⟨[], [], [0, 1, 2], [], none⟩), (1, ⟨[], [], [3, 4, 5, 6], [3, 4, 5, 6], none⟩), (2, ⟨[], [], [3, 4, 5, 6, 7, 8], [3, 4, 5, 6, 7, 8], none⟩), (3, ⟨[], [], [3, 4, 5, 6, 7, 8, 9], [3, 4, 5, 6, 7, 8, 9], none⟩), (4, ⟨[], [], [3, 4, 5, 6, 7, 8, 9, 20], [3, 4, 5, 6, 7, 8, 9], none⟩), (6, ⟨[], [], [3, 4, 5, 6, 7, 9, 34], [3, 4, 5, 6, 7, 9], none⟩), (7, ⟨[], [], [3, 4, 5, 6, 7], [3, 4, 5, 6, 7], none⟩), (8, ⟨[], [], [6, 7, 10], [6, 7, 10], none⟩)], kdL [], []⟩
def spec_SquareTo_g (N : Nat) (v1 : (((Bool × ((List Int) × Unit)) × (Int × Unit)) × (((Bool × ((List Int) × Unit)) × (Int × Unit)) × Unit))) (v2 : (((Bool × ((List Int) × Unit)) × (Int × Unit)) × (((Bool × ((List Int) × Unit)) × (Int × Unit)) × Unit))) (v3 : (((Bool × ((List Int) × Unit)) × (Int × Unit)) × (((Bool × ((List Int) × Unit)) × (Int × Unit)) × Unit))) : Option ((((Bool × ((List Int) × Unit)) × (Int × Unit)) × (((Bool × ((List Int) × Unit)) × (Int × Unit)) × Unit))) :=
  ((spec_Square N (((v2.1.1.1, v2.1.1.2.1, ()), v2.1.2.1, ()), ((v2.2.1.1.1, v2.2.1.1.2.1, ()), v2.2.1.2.1, ()), ()) (((v3.1.1.1, v3.1.1.2.1, ()), v3.1.2.1, ()), ((v3.2.1.1.1, v3.2.1.1.2.1, ()), v3.2.1.2.1, ()), ())).bind fun v4 => (spec_Dot N (((v2.1.1.1, v2.1.1.2.1, ()), v2.1.2.1, ()), ((v2.2.1.1.1, v2.2.1.1.2.1, ()), v2.2.1.2.1, ()), ()) (((v3.1.1.1, v3.1.1.2.1, ()), v3.1.2.1, ()), ((v3.2.1.1.1, v3.2.1.1.2.1, ()), v3.2.1.2.1, ()), ()) (((v2.1.1.1, v2.1.1.2.1, ()), v2.1.2.1, ()), ((v2.2.1.1.1, v2.2.1.1.2.1, ()), v2.2.1.2.1, ()), ()) (((v1.1.1.1, v1.1.1.2.1, ()), v1.1.2.1, ()), ((v1.2.1.1.1, v1.2.1.1.2.1, ()), v1.2.1.2.1, ()), ())).bind fun v5 => ((spec_IntOf N 1).bind fun v6 => ((spec_Dyadic_Sign N ((v4.1.1, v4.1.2.1, ()), v4.2.1, ())).bind fun v7 => bif (v7 == 0) then ((spec_Square N (((v2.1.1.1, v2.1.1.2.1, ()), v2.1.2.1, ()), ((v2.2.1.1.1, v2.2.1.1.2.1, ()), v2.2.1.2.1, ()), ()) (((v1.1.1.1, v1.1.1.2.1, ()), v1.1.2.1, ()), ((v1.2.1.1.1, v1.2.1.1.2.1, ()), v1.2.1.2.1, ()), ())).bind fun v9 => (some (((v9.1.1, v9.1.2.1, ()), v9.2.1, ()), ((v6.1.1, v6.1.2.1, ()), v6.2.1, ()), ()))) else ((spec_Dyadic_Sign N ((v5.1.1, v5.1.2.1, ()), v5.2.1, ())).bind fun v8 => (bif (decide ((v8 : Int) ≤ 0)) then ((spec_Square N (((v2.1.1.1, v2.1.1.2.1, ()), v2.1.2.1, ()), ((v2.2.1.1.1, v2.2.1.1.2.1, ()), v2.2.1.2.1, ()), ()) (((v1.1.1.1, v1.1.1.2.1, ()), v1.1.2.1, ()), ((v1.2.1.1.1, v1.2.1.1.2.1, ()), v1.2.1.2.1, ()), ())).bind fun v10 => (some (((v10.1.1, v10.1.2.1, ()), v10.2.1, ()), ((v6.1.1, v6.1.2.1, ()), v6.2.1, ()), ()))) else ((spec_Dyadic_Cmp N ((v5.1.1, v5.1.2.1, ()), v5.2.1, ()) ((v4.1.1, v4.1.2.1, ()), v4.2.1, ())).bind fun v11 => (bif (decide ((v11 : Int) ≥ 0)) then ((spec_Square N (((v3.1.1.1, v3.1.1.2.1, ()), v3.1.2.1, ()), ((v3.2.1.1.1, v3.2.1.1.2.1, ()), v3.2.1.2.1, ()), ()) (((v1.1.1.1, v1.1.1.2.1, ()), v1.1.2.1, ()), ((v1.2.1.1.1, v1.2.1.1.2.1, ()), v1.2.1.2.1, ()), ())).bind fun v12 => (some (((v12.1.1, v12.1.2.1, ()), v12.2.1, ()), ((v6.1.1, v6.1.2.1, ()), v6.2.1, ()), ()))) else ((spec_Cross N (((v2.1.1.1, v2.1.1.2.1, ()), v2.1.2.1, ()), ((v2.2.1.1.1, v2.2.1.1.2.1, ()), v2.2.1.2.1, ()), ()) (((v3.1.1.1, v3.1.1.2.1, ()), v3.1.2.1, ()), ((v3.2.1.1.1, v3.2.1.1.2.1, ()), v3.2.1.2.1, ()), ()) (((v1.1.1.1, v1.1.1.2.1, ()), v1.1.2.1, ()), ((v1.2.1.1.1, v1.2.1.1.2.1, ()), v1.2.1.2.1, ()), ())).bind fun v13 => ((spec_Dyadic_Mul N ((v13.1.1, v13.1.2.1, ()), v13.2.1, ()) ((v13.1.1, v13.1.2.1, ()), v13.2.1, ())).bind fun v14 => (some (((v14.1.1, v14.1.2.1, ()), v14.2.1, ()), ((v4.1.1, v4.1.2.1, ()), v4.2.1, ()), ())))))))))))
def spec_SquareTo (N : Nat) (v1 : (((Bool × ((List Int) × Unit)) × (Int × Unit)) × (((Bool × ((List Int) × Unit)) × (Int × Unit)) × Unit))) (v2 : (((Bool × ((List Int) × Unit)) × (Int × Unit)) × (((Bool × ((List Int) × Unit)) × (Int × Unit)) × Unit))) (v3 : (((Bool × ((List Int) × Unit)) × (Int × Unit)) × (((Bool × ((List Int) × Unit)) × (Int × Unit)) × Unit))) : Option ((((Bool × ((List Int) × Unit)) × (Int × Unit)) × (((Bool × ((List Int) × Unit)) × (Int × Unit)) × Unit))) :=
  spec_SquareTo_g N v1 v2 v3
set_option maxRecDepth 100000
theorem spec_SquareTo_t (N : Nat) (v1 : (((Bool × ((List Int) × Unit)) × (Int × Unit)) × (((Bool × ((List Int) × Unit)) × (Int × Unit)) × Unit))) (v2 : (((Bool × ((List Int) × Unit)) × (Int × Unit)) × (((Bool × ((List Int) × Unit)) × (Int × Unit)) × Unit))) (v3 : (((Bool × ((List Int) × Unit)) × (Int × Unit)) × (((Bool × ((List Int) × Unit)) × (Int × Unit)) × Unit))) : evF (spec_SquareTo_E N) [] Try.f39 [.k (.pair (.pair (.pair .bool (.pair (.list (.int .u32)) .unit)) (.pair (.int .i64) .unit)) (.pair (.pair (.pair .bool (.pair (.list (.int .u32)) .unit)) (.pair (.int .i64) .unit)) .unit)), .k (.pair (.pair (.pair .bool (.pair (.list (.int .u32)) .unit)) (.pair (.int .i64) .unit)) (.pair (.pair (.pair .bool (.pair (.list (.int .u32)) .unit)) (.pair (.int .i64) .unit)) .unit)), .k (.pair (.pair (.pair .bool (.pair (.list (.int .u32)) .unit)) (.pair (.int .i64) .unit)) (.pair (.pair (.pair .bool (.pair (.list (.int .u32)) .unit)) (.pair (.int .i64) .unit)) .unit))] [(.pair (.pair (.pair .bool (.pair (.list (.int .u32)) .unit)) (.pair (.int .i64) .unit)) (.pair (.pair (.pair .bool (.pair (.list (.int .u32)) .unit)) (.pair (.int .i64) .unit)) .unit))] (v1, v2, v3, ()) = spec_SquareTo N v1 v2 v3 := by
  exact (show evF (spec_SquareTo_E N) [] Try.f39 [.k (.pair (.pair (.pair .bool (.pair (.list (.int .u32)) .unit)) (.pair (.int .i64) .unit)) (.pair (.pair (.pair .bool (.pair (.list (.int .u32)) .unit)) (.pair (.int .i64) .unit)) .unit)), .k (.pair (.pair (.pair .bool (.pair (.list (.int .u32)) .unit)) (.pair (.int .i64) .unit)) (.pair (.pair (.pair .bool (.pair (.list (.int .u32)) .unit)) (.pair (.int .i64) .unit)) .unit)), .k (.pair (.pair (.pair .bool (.pair (.list (.int .u32)) .unit)) (.pair (.int .i64) .unit)) (.pair (.pair (.pair .bool (.pair (.list (.int .u32)) .unit)) (.pair (.int .i64) .unit)) .unit))] [(.pair (.pair (.pair .bool (.pair (.list (.int .u32)) .unit)) (.pair (.int .i64) .unit)) (.pair (.pair (.pair .bool (.pair (.list (.int .u32)) .unit)) (.pair (.int .i64) .unit)) .unit))] (v1, v2, v3, ()) = spec_SquareTo_g N v1 v2 v3 from by kernel_rfl).trans (by rfl)
noncomputable def spec_SquareTo_con (N : Nat) : Con := ⟨39, [.k (.pair (.pair (.pair .bool (.pair (.list (.int .u32)) .unit)) (.pair (.int .i64) .unit)) (.pair (.pair (.pair .bool (.pair (.list (.int .u32)) .unit)) (.pair (.int .i64) .unit)) .unit)), .k (.pair (.pair (.pair .bool (.pair (.list (.int .u32)) .unit)) (.pair (.int .i64) .unit)) (.pair (.pair (.pair .bool (.pair (.list (.int .u32)) .unit)) (.pair (.int .i64) .unit)) .unit)), .k (.pair (.pair (.pair .bool (.pair (.list (.int .u32)) .unit)) (.pair (.int .i64) .unit)) (.pair (.pair (.pair .bool (.pair (.list (.int .u32)) .unit)) (.pair (.int .i64) .unit)) .unit))], [(.pair (.pair (.pair .bool (.pair (.list (.int .u32)) .unit)) (.pair (.int .i64) .unit)) (.pair (.pair (.pair .bool (.pair (.list (.int .u32)) .unit)) (.pair (.int .i64) .unit)) .unit))], fun x => spec_SquareTo N x.1 x.2.1 x.2.2.1⟩
theorem spec_SquareTo_s (N : Nat) : (spec_SquareTo_con N).Sound Try.prog :=
  Con.sound_of (c := spec_SquareTo_con N) (E := (spec_SquareTo_E N)) (idle := []) Try.func39 (by kernel_rfl) (by kernel_rfl) ⟨(allCons (spec_Square_s N) (allCons (spec_Dot_s N) (allCons (spec_IntOf_s N) (allCons (spec_Dyadic_Sign_s N) (allCons (spec_Dyadic_Cmp_s N) (allCons (spec_Cross_s N) (allCons (spec_Dyadic_Mul_s N) allNil))))))), allNil⟩ allNil (fun x y h => (spec_SquareTo_t N x.1 x.2.1 x.2.2.1).trans h)
/-- (pub-orthodrome/spec.Whole).top -/
noncomputable def spec_Whole_top_E (N : Nat) : Env := ⟨Try.prog, N, [], [(0, ⟨[], [], [0], [], none⟩), (1, ⟨[], [], [1], [1], none⟩), (2, ⟨[], [], [1, 8], [1], none⟩), (3, ⟨[], [], [1], [1], none⟩), (4, ⟨[], [], [1, 3], [1], none⟩), (5, ⟨[], [], [3, 4], [], none⟩), (6, ⟨[], [], [3, 4], [], none⟩), (7, ⟨[], [], [3, 4], [], none⟩), (8, ⟨[], [], [3], [], none⟩)], kdL [], []⟩
def spec_Whole_top_g0 (N : Nat) (r0 : Int → Int → Option (Int)) (v3 : Int) (v4 : Int) : Option (Int) :=
  (bif (decide ((v4 : Int) < 2147483648)) then ((r0 (IntKind.i64.wrap (v3 - 1)) (IntKind.u32.wrap (v4 * 2 ^ (min (1 : Int).toNat (IntKind.bits .u32)))))) else (some v3))
def spec_Whole_top_l0 (N : Nat) : Nat → Int → Int → Option (Int)
  | 0, _, _ => none
  | n + 1, v3, v4 => spec_Whole_top_g0 N (spec_Whole_top_l0 N n) v3 v4
def spec_Whole_top_g (N : Nat) (v1 : (Bool × ((List Int) × Unit))) (c0 : Int → Int → Option (Int)) : Option (Int) :=
  (bif ((v1.2.1.length : Int) == 0) then (some 0) else ((nth v1.2.1 (IntKind.i64.wrap ((v1.2.1.length : Int) - 1))).bind fun v2 => ((c0 (IntKind.i64.wrap (32 * (v1.2.1.length : Int))) v2))))
def spec_Whole_top (N : Nat) (v1 : (Bool × ((List Int) × Unit))) : Option (Int) :=
  spec_Whole_top_g N v1 (spec_Whole_top_l0 N N)
set_option maxRecDepth 100000
noncomputable def spec_Whole_top_e0 (N : Nat) (n : Nat) (v3 : Int) (v4 : Int) : Option (HR [(.int .i64)]) :=
  loopN (advOf (spec_Whole_top_E N) (codeAt (bodyOf Try.f69) [1, 1, 1, 0, 1, 0, 0])) (evC (spec_Whole_top_E N) (codeAt (bodyOf Try.f69) [1, 1, 1, 0, 1, 0, 0])) n ⟨[(3, .pv (.int .i64) v3), (4, .pv (.int .u32) v4)], [], []⟩ (kBlock 0 (kSeq (advOf (spec_Whole_top_E N) (codeAt (bodyOf Try.f69) [1, 1, 1, 1])) (evC (spec_Whole_top_E N) (codeAt (bodyOf Try.f69) [1, 1, 1, 1])) (kEnd (spec_Whole_top_E N) [] Try.f69.results.toList [(.int .i64)])))
theorem spec_Whole_top_t0 (N : Nat) : ∀ (n : Nat) (v3 : Int) (v4 : Int), spec_Whole_top_e0 N n v3 v4 = spec_Whole_top_l0 N n v3 v4
  | 0, _, _ => rfl
  | n + 1, v3, v4 => by
    have h : spec_Whole_top_e0 N n = spec_Whole_top_l0 N n := by funext v3 v4; exact spec_Whole_top_t0 N n v3 v4
    exact (show spec_Whole_top_e0 N (n + 1) v3 v4 = spec_Whole_top_g0 N (spec_Whole_top_e0 N n) v3 v4 from by kernel_rfl).trans (by rw [h]; rfl)
theorem spec_Whole_top_t (N : Nat) (v1 : (Bool × ((List Int) × Unit))) : evF (spec_Whole_top_E N) [] Try.f69 [.k (.pair .bool (.pair (.list (.int .u32)) .unit))] [(.int .i64)] (v1, ()) = spec_Whole_top N v1 := by
  have h0 : (spec_Whole_top_e0 N N) = (spec_Whole_top_l0 N N) := by funext v3 v4; exact spec_Whole_top_t0 N N v3 v4
  exact (show evF (spec_Whole_top_E N) [] Try.f69 [.k (.pair .bool (.pair (.list (.int .u32)) .unit))] [(.int .i64)] (v1, ()) = spec_Whole_top_g N v1 (spec_Whole_top_e0 N N) from by kernel_rfl).trans (by rw [h0]; rfl)
noncomputable def spec_Whole_top_con (N : Nat) : Con := ⟨69, [.k (.pair .bool (.pair (.list (.int .u32)) .unit))], [(.int .i64)], fun x => spec_Whole_top N x.1⟩
theorem spec_Whole_top_s (N : Nat) : (spec_Whole_top_con N).Sound Try.prog :=
  Con.sound_of (c := spec_Whole_top_con N) (E := (spec_Whole_top_E N)) (idle := []) Try.func69 (by kernel_rfl) (by kernel_rfl) ⟨allNil, allNil⟩ allNil (fun x y h => (spec_Whole_top_t N x.1).trans h)
/-- (pub-orthodrome/spec.Whole).bit -/
noncomputable def spec_Whole_bit_E (N : Nat) : Env := ⟨Try.prog, N, [], [(0, ⟨[], [], [0, 1], [], none⟩), (1, ⟨[], [], [1, 2], [2], none⟩)], kdL [], []⟩
def spec_Whole_bit_g (N : Nat) (v1 : (Bool × ((List Int) × Unit))) (v2 : Int) : Option (Bool) :=
  (bif (decide ((v2 : Int) ≥ 0)) then (bif (decide (((IntKind.i64.wrap (Int.tdiv v2 32)) : Int) < (v1.2.1.length : Int))) then ((nth v1.2.1 (IntKind.i64.wrap (Int.tdiv v2 32))).bind fun v3 => if ((Int.tmod v2 32) : Int) < 0 then none else (some ((bits .and .u32 (Int.fdiv v3 (2 ^ (min ((Int.tmod v2 32) : Int).toNat (IntKind.bits .u32)))) 1) == 1))) else (some false)) else (some false))
def spec_Whole_bit (N : Nat) (v1 : (Bool × ((List Int) × Unit))) (v2 : Int) : Option (Bool) :=
  spec_Whole_bit_g N v1 v2
set_option maxRecDepth 100000
theorem spec_Whole_bit_t (N : Nat) (v1 : (Bool × ((List Int) × Unit))) (v2 : Int) : evF (spec_Whole_bit_E N) [] Try.f70 [.k (.pair .bool (.pair (.list (.int .u32)) .unit)), .k (.int .i64)] [.bool] (v1, v2, ()) = spec_Whole_bit N v1 v2 := by
  exact (show evF (spec_Whole_bit_E N) [] Try.f70 [.k (.pair .bool (.pair (.list (.int .u32)) .unit)), .k (.int .i64)] [.bool] (v1, v2, ()) = spec_Whole_bit_g N v1 v2 from by kernel_rfl).trans (by rfl)
noncomputable def spec_Whole_bit_con (N : Nat) : Con := ⟨70, [.k (.pair .bool (.pair (.list (.int .u32)) .unit)), .k (.int .i64)], [.bool], fun x => spec_Whole_bit N x.1 x.2.1⟩
theorem spec_Whole_bit_s (N : Nat) : (spec_Whole_bit_con N).Sound Try.prog :=
  Con.sound_of (c := spec_Whole_bit_con N) (E := (spec_Whole_bit_E N)) (idle := []) Try.func70 (by kernel_rfl) (by kernel_rfl) ⟨allNil, allNil⟩ allNil (fun x y h => (spec_Whole_bit_t N x.1 x.2.1).trans h)
/-- (pub-orthodrome/spec.Whole).low -/
noncomputable def spec_Whole_low_E (N : Nat) : Env := ⟨Try.prog, N, [spec_Whole_bit_con N], [(0, ⟨[], [], [0, 1], [], none⟩), (1, ⟨[], [], [1, 2], [2], none⟩), (2, ⟨[], [], [1, 2, 5], [2], none⟩), (3, ⟨[], [], [1, 2, 5], [2], none⟩), (4, ⟨[], [], [1, 2, 5], [2], none⟩), (5, ⟨[], [], [1, 2, 5, 13], [2], none⟩), (6, ⟨[], [], [], [], none⟩)], kdL [], []⟩
def spec_Whole_low_g0 (N : Nat) (v2 : Int) (v1 : (Bool × ((List Int) × Unit))) (r0 : Int → Option (Bool)) (v4 : Int) : Option (Bool) :=
  (bif (decide ((v4 : Int) < v2)) then ((spec_Whole_bit N (v1.1, v1.2.1, ()) v4).bind fun v5 => (bif v5 then (some true) else ((r0 (IntKind.i64.wrap (v4 + 1)))))) else (some false))
def spec_Whole_low_l0 (N : Nat) : Nat → Int → (Bool × ((List Int) × Unit)) → Int → Option (Bool)
  | 0, _, _, _ => none
  | n + 1, v2, v1, v4 => spec_Whole_low_g0 N v2 v1 (spec_Whole_low_l0 N n v2 v1) v4
def spec_Whole_low_g (N : Nat) (v1 : (Bool × ((List Int) × Unit))) (v2 : Int) (c0 : Int → (Bool × ((List Int) × Unit)) → Int → Option (Bool)) : Option (Bool) :=
  ((c0 v2 v1 0))
def spec_Whole_low (N : Nat) (v1 : (Bool × ((List Int) × Unit))) (v2 : Int) : Option (Bool) :=
  spec_Whole_low_g N v1 v2 (spec_Whole_low_l0 N N)
set_option maxRecDepth 100000
noncomputable def spec_Whole_low_e0 (N : Nat) (n : Nat) (v2 : Int) (v1 : (Bool × ((List Int) × Unit))) (v4 : Int) : Option (HR [.bool]) :=
  loopN (advOf (spec_Whole_low_E N) (codeAt (bodyOf Try.f71) [1, 0, 1, 0, 0])) (evC (spec_Whole_low_E N) (codeAt (bodyOf Try.f71) [1, 0, 1, 0, 0])) n ⟨[(1, .pv (.int .i64) v2), (2, .ref 2 0), (5, .pv (.int .i64) v4)], [(2, .box [.pv .bool v1.1, .pv (.list (.int .u32)) v1.2.1])], []⟩ (kBlock 0 (kSeq (advOf (spec_Whole_low_E N) (codeAt (bodyOf Try.f71) [1, 1])) (evC (spec_Whole_low_E N) (codeAt (bodyOf Try.f71) [1, 1])) (kEnd (spec_Whole_low_E N) [] Try.f71.results.toList [.bool])))
theorem spec_Whole_low_t0 (N : Nat) : ∀ (n : Nat) (v2 : Int) (v1 : (Bool × ((List Int) × Unit))) (v4 : Int), spec_Whole_low_e0 N n v2 v1 v4 = spec_Whole_low_l0 N n v2 v1 v4
  | 0, _, _, _ => rfl
  | n + 1, v2, v1, v4 => by
    have h : spec_Whole_low_e0 N n v2 v1 = spec_Whole_low_l0 N n v2 v1 := by funext v4; exact spec_Whole_low_t0 N n v2 v1 v4
    exact (show spec_Whole_low_e0 N (n + 1) v2 v1 v4 = spec_Whole_low_g0 N v2 v1 (spec_Whole_low_e0 N n v2 v1) v4 from by kernel_rfl).trans (by rw [h]; rfl)
theorem spec_Whole_low_t (N : Nat) (v1 : (Bool × ((List Int) × Unit))) (v2 : Int) : evF (spec_Whole_low_E N) [] Try.f71 [.k (.pair .bool (.pair (.list (.int .u32)) .unit)), .k (.int .i64)] [.bool] (v1, v2, ()) = spec_Whole_low N v1 v2 := by
  have h0 : (spec_Whole_low_e0 N N) = (spec_Whole_low_l0 N N) := by funext v2 v1 v4; exact spec_Whole_low_t0 N N v2 v1 v4
  exact (show evF (spec_Whole_low_E N) [] Try.f71 [.k (.pair .bool (.pair (.list (.int .u32)) .unit)), .k (.int .i64)] [.bool] (v1, v2, ()) = spec_Whole_low_g N v1 v2 (spec_Whole_low_e0 N N) from by kernel_rfl).trans (by rw [h0]; rfl)
noncomputable def spec_Whole_low_con (N : Nat) : Con := ⟨71, [.k (.pair .bool (.pair (.list (.int .u32)) .unit)), .k (.int .i64)], [.bool], fun x => spec_Whole_low N x.1 x.2.1⟩
theorem spec_Whole_low_s (N : Nat) : (spec_Whole_low_con N).Sound Try.prog :=
  Con.sound_of (c := spec_Whole_low_con N) (E := (spec_Whole_low_E N)) (idle := []) Try.func71 (by kernel_rfl) (by kernel_rfl) ⟨(allCons (spec_Whole_bit_s N) allNil), allNil⟩ allNil (fun x y h => (spec_Whole_low_t N x.1 x.2.1).trans h)
/-- math.IsInf -/
noncomputable def math_IsInf_E (N : Nat) : Env := ⟨Try.prog, N, [math_Abs_con N], [(0, ⟨[], [], [0, 1], [], none⟩), (1, ⟨[], [], [0, 1], [], none⟩), (2, ⟨[], [], [0, 1, 6], [], none⟩), (4, ⟨[], [], [0, 10], [], none⟩), (5, ⟨[], [], [0], [], some N⟩)], kdL [], []⟩
def math_IsInf_g0 (N : Nat) (v4 : Nat) : Option (Bool) :=
  (some (fgt v4 9218868437227405311))
def math_IsInf_j0 (N : Nat) (v4 : Nat) : Option (Bool) :=
  gate N (math_IsInf_g0 N v4)
def math_IsInf_g (N : Nat) (v1 : Nat) (v2 : Int) (c0 : Nat → Option (Bool)) : Option (Bool) :=
  (bif (v2 == 0) then ((math_Abs N v1).bind fun v3 => (c0 v3)) else (bif (decide ((v2 : Int) < 0)) then (c0 (fneg v1)) else (c0 v1)))
def math_IsInf (N : Nat) (v1 : Nat) (v2 : Int) : Option (Bool) :=
  math_IsInf_g N v1 v2 (math_IsInf_j0 N)
set_option maxRecDepth 100000
noncomputable def math_IsInf_e0 (N : Nat) (v4 : Nat) : Option (HR [.bool]) :=
  gate N (evC (math_IsInf_E N) (codeAt (bodyOf Try.f119) [1, 1]) ⟨[(0, .pv .float v4)], [], []⟩ (kEnd (math_IsInf_E N) [] Try.f119.results.toList [.bool]))
theorem math_IsInf_t0 (N : Nat) (v4 : Nat) : math_IsInf_e0 N v4 = math_IsInf_j0 N v4 := by
  exact (congrArg (gate N) (show evC (math_IsInf_E N) (codeAt (bodyOf Try.f119) [1, 1]) ⟨[(0, .pv .float v4)], [], []⟩ (kEnd (math_IsInf_E N) [] Try.f119.results.toList [.bool]) = math_IsInf_g0 N v4 from by kernel_rfl)).trans (by rfl)
theorem math_IsInf_t (N : Nat) (v1 : Nat) (v2 : Int) : evF (math_IsInf_E N) [] Try.f119 [.k .float, .k (.int .i64)] [.bool] (v1, v2, ()) = math_IsInf N v1 v2 := by
  have h0 : (math_IsInf_e0 N) = (math_IsInf_j0 N) := by funext v4; exact math_IsInf_t0 N v4
  exact (show evF (math_IsInf_E N) [] Try.f119 [.k .float, .k (.int .i64)] [.bool] (v1, v2, ()) = math_IsInf_g N v1 v2 (math_IsInf_e0 N) from by kernel_rfl).trans (by rw [h0]; rfl)
noncomputable def math_IsInf_con (N : Nat) : Con := ⟨119, [.k .float, .k (.int .i64)], [.bool], fun x => math_IsInf N x.1 x.2.1⟩
theorem math_IsInf_s (N : Nat) : (math_IsInf_con N).Sound Try.prog :=
  Con.sound_of (c := math_IsInf_con N) (E := (math_IsInf_E N)) (idle := []) Try.func119 (by kernel_rfl) (by kernel_rfl) ⟨(allCons (math_Abs_s N) allNil), allNil⟩ allNil (fun x y h => (math_IsInf_t N x.1 x.2.1).trans h)
/-- math.IsNaN -/
noncomputable def math_IsNaN_E (N : Nat) : Env := ⟨Try.prog, N, [], [(0, ⟨[], [], [0], [], none⟩), (1, ⟨[], [], [0], [], none⟩)], kdL [], []⟩
def math_IsNaN_g (N : Nat) (v1 : Nat) : Option (Bool) :=
  (some (fne v1 v1))
def math_IsNaN (N : Nat) (v1 : Nat) : Option (Bool) :=
  math_IsNaN_g N v1
set_option maxRecDepth 100000
theorem math_IsNaN_t (N : Nat) (v1 : Nat) : evF (math_IsNaN_E N) [] Try.f97 [.k .float] [.bool] (v1, ()) = math_IsNaN N v1 := by
  exact (show evF (math_IsNaN_E N) [] Try.f97 [.k .float] [.bool] (v1, ()) = math_IsNaN_g N v1 from by kernel_rfl).trans (by rfl)
noncomputable def math_IsNaN_con (N : Nat) : Con := ⟨97, [.k .float], [.bool], fun x => math_IsNaN N x.1⟩
theorem math_IsNaN_s (N : Nat) : (math_IsNaN_con N).Sound Try.prog :=
  Con.sound_of (c := math_IsNaN_con N) (E := (math_IsNaN_E N)) (idle := []) Try.func97 (by kernel_rfl) (by kernel_rfl) ⟨allNil, allNil⟩ allNil (fun x y h => (math_IsNaN_t N x.1).trans h)
/-- math.normalize -/
noncomputable def math_normalize_E (N : Nat) : Env := ⟨Try.prog, N, [math_Abs_con N], [(0, ⟨[], [], [0], [], none⟩), (1, ⟨[], [], [0], [], none⟩), (2, ⟨[], [], [0, 6], [], none⟩), (3, ⟨[], [], [0], [], none⟩)], kdL [], []⟩
def math_normalize_g (N : Nat) (v1 : Nat) : Option (Nat × Int) :=
  ((math_Abs N v1).bind fun v2 => (bif (flt v2 4503599627370496) then ((Ieee.double.mul v1 4841369599423283200).bind fun v3 => (some (v3, -52))) else (some (v1, 0))))
def math_normalize (N : Nat) (v1 : Nat) : Option (Nat × Int) :=
  math_normalize_g N v1
set_option maxRecDepth 100000
theorem math_normalize_t (N : Nat) (v1 : Nat) : evF (math_normalize_E N) [] Try.f120 [.k .float] [.float, (.int .i64)] (v1, ()) = math_normalize N v1 := by
  exact (show evF (math_normalize_E N) [] Try.f120 [.k .float] [.float, (.int .i64)] (v1, ()) = math_normalize_g N v1 from by kernel_rfl).trans (by rfl)
noncomputable def math_normalize_con (N : Nat) : Con := ⟨120, [.k .float], [.float, (.int .i64)], fun x => math_normalize N x.1⟩
theorem math_normalize_s (N : Nat) : (math_normalize_con N).Sound Try.prog :=
  Con.sound_of (c := math_normalize_con N) (E := (math_normalize_E N)) (idle := []) Try.func120 (by kernel_rfl) (by kernel_rfl) ⟨(allCons (math_Abs_s N) allNil), allNil⟩ allNil (fun x y h => (math_normalize_t N x.1).trans h)
/-- math.Copysign -/
noncomputable def math_Copysign_E (N : Nat) : Env := ⟨Try.prog, N, [math_Float64bits_con N, math_Float64frombits_con N], [(0, ⟨[], [], [0, 1], [], none⟩), (1, ⟨[], [], [0, 1], [], none⟩)], kdL [], []⟩
def math_Copysign_g (N : Nat) (v1 : Nat) (v2 : Nat) : Option (Nat) :=
  ((math_Float64bits N v1).bind fun v3 => (math_Float64bits N v2).bind fun v4 => (math_Float64frombits N (bits .or .u64 (bits .andNot .u64 v3 9223372036854775808) (bits .and .u64 v4 9223372036854775808))).bind fun v5 => (some v5))
def math_Copysign (N : Nat) (v1 : Nat) (v2 : Nat) : Option (Nat) :=
  math_Copysign_g N v1 v2
set_option maxRecDepth 100000
theorem math_Copysign_t (N : Nat) (v1 : Nat) (v2 : Nat) : evF (math_Copysign_E N) [] Try.f115 [.k .float, .k .float] [.float] (v1, v2, ()) = math_Copysign N v1 v2 := by
  exact (show evF (math_Copysign_E N) [] Try.f115 [.k .float, .k .float] [.float] (v1, v2, ()) = math_Copysign_g N v1 v2 from by kernel_rfl).trans (by rfl)
noncomputable def math_Copysign_con (N : Nat) : Con := ⟨115, [.k .float, .k .float], [.float], fun x => math_Copysign N x.1 x.2.1⟩
theorem math_Copysign_s (N : Nat) : (math_Copysign_con N).Sound Try.prog :=
  Con.sound_of (c := math_Copysign_con N) (E := (math_Copysign_E N)) (idle := []) Try.func115 (by kernel_rfl) (by kernel_rfl) ⟨(allCons (math_Float64bits_s N) (allCons (math_Float64frombits_s N) allNil)), allNil⟩ allNil (fun x y h => (math_Copysign_t N x.1 x.2.1).trans h)
/-- math.Inf -/
noncomputable def math_Inf_E (N : Nat) : Env := ⟨Try.prog, N, [math_Float64frombits_con N], [(0, ⟨[], [], [0], [], none⟩), (1, ⟨[], [], [0], [], none⟩), (2, ⟨[], [], [0], [], none⟩), (3, ⟨[], [], [5], [], none⟩), (5, ⟨[], [], [3], [], some N⟩)], kdL [], []⟩
def math_Inf_g0 (N : Nat) (v2 : Int) : Option (Nat) :=
  (math_Float64frombits N v2).bind fun v3 => (some v3)
def math_Inf_j0 (N : Nat) (v2 : Int) : Option (Nat) :=
  gate N (math_Inf_g0 N v2)
def math_Inf_g (N : Nat) (v1 : Int) (c0 : Int → Option (Nat)) : Option (Nat) :=
  (bif (decide ((v1 : Int) ≥ 0)) then (c0 9218868437227405312) else (c0 18442240474082181120))
def math_Inf (N : Nat) (v1 : Int) : Option (Nat) :=
  math_Inf_g N v1 (math_Inf_j0 N)
set_option maxRecDepth 100000
noncomputable def math_Inf_e0 (N : Nat) (v2 : Int) : Option (HR [.float]) :=
  gate N (evC (math_Inf_E N) (codeAt (bodyOf Try.f121) [1, 1, 1]) ⟨[(3, .pv (.int .u64) v2)], [], []⟩ (kEnd (math_Inf_E N) [] Try.f121.results.toList [.float]))
theorem math_Inf_t0 (N : Nat) (v2 : Int) : math_Inf_e0 N v2 = math_Inf_j0 N v2 := by
  exact (congrArg (gate N) (show evC (math_Inf_E N) (codeAt (bodyOf Try.f121) [1, 1, 1]) ⟨[(3, .pv (.int .u64) v2)], [], []⟩ (kEnd (math_Inf_E N) [] Try.f121.results.toList [.float]) = math_Inf_g0 N v2 from by kernel_rfl)).trans (by rfl)
theorem math_Inf_t (N : Nat) (v1 : Int) : evF (math_Inf_E N) [] Try.f121 [.k (.int .i64)] [.float] (v1, ()) = math_Inf N v1 := by
  have h0 : (math_Inf_e0 N) = (math_Inf_j0 N) := by funext v2; exact math_Inf_t0 N v2
  exact (show evF (math_Inf_E N) [] Try.f121 [.k (.int .i64)] [.float] (v1, ()) = math_Inf_g N v1 (math_Inf_e0 N) from by kernel_rfl).trans (by rw [h0]; rfl)
noncomputable def math_Inf_con (N : Nat) : Con := ⟨121, [.k (.int .i64)], [.float], fun x => math_Inf N x.1⟩
theorem math_Inf_s (N : Nat) : (math_Inf_con N).Sound Try.prog :=
  Con.sound_of (c := math_Inf_con N) (E := (math_Inf_E N)) (idle := []) Try.func121 (by kernel_rfl) (by kernel_rfl) ⟨(allCons (math_Float64frombits_s N) allNil), allNil⟩ allNil (fun x y h => (math_Inf_t N x.1).trans h)
/-- math.ldexp -/
noncomputable def math_ldexp_E (N : Nat) : Env := ⟨Try.prog, N, [math_IsInf_con N, math_IsNaN_con N, math_normalize_con N, math_Float64bits_con N, math_Copysign_con N, math_Inf_con N, math_Float64frombits_con N], [(0, ⟨[], [], [0, 1], [], none⟩), (1, ⟨[], [], [0, 1], [], none⟩), (2, ⟨[], [], [0, 1, 8], [], none⟩), (4, ⟨[], [], [0, 1, 12], [], none⟩), (5, ⟨[], [], [0, 1], [], none⟩), (6, ⟨[], [], [0, 1, 5], [], none⟩), (7, ⟨[], [], [0, 1], [], none⟩), (8, ⟨[], [], [0, 1, 6], [], none⟩), (9, ⟨[], [], [0, 1, 6], [], none⟩), (10, ⟨[], [], [0, 1, 6, 38], [], none⟩), (11, ⟨[], [], [0, 1, 6], [], none⟩), (12, ⟨[], [], [0, 1, 6, 42], [], none⟩), (13, ⟨[], [], [44], [], none⟩), (14, ⟨[], [], [], [], none⟩), (15, ⟨[], [], [1, 6], [], none⟩), (16, ⟨[], [], [1, 6, 7], [], none⟩), (17, ⟨[], [], [1, 6, 7, 48], [], none⟩), (18, ⟨[], [], [1, 6], [], none⟩), (19, ⟨[], [], [1, 6, 7], [], some N⟩), (20, ⟨[], [], [1, 6, 7], [], none⟩), (21, ⟨[], [], [6, 7], [], none⟩)], kdL [], []⟩
def math_ldexp_g0 (N : Nat) (v6 : Int) (v10 : Int) (v11 : Nat) : Option (Nat) :=
  ((math_Float64frombits N (bits .or .u64 (bits .andNot .u64 v6 9218868437227405312) (IntKind.u64.wrap ((IntKind.u64.wrap (IntKind.i64.wrap (v10 + 1023))) * 2 ^ (min (52 : Int).toNat (IntKind.bits .u64)))))).bind fun v12 => (Ieee.double.mul v11 v12).bind fun v13 => (some v13))
def math_ldexp_j0 (N : Nat) (v6 : Int) (v10 : Int) (v11 : Nat) : Option (Nat) :=
  gate N (math_ldexp_g0 N v6 v10 v11)
def math_ldexp_g (N : Nat) (v1 : Nat) (v2 : Int) (c0 : Int → Int → Nat → Option (Nat)) : Option (Nat) :=
  (bif (feq v1 0) then (some v1) else ((math_IsInf N v1 0).bind fun v3 => bif v3 then (some v1) else ((math_IsNaN N v1).bind fun v4 => (bif v4 then (some v1) else ((math_normalize N v1).bind fun v5 => ((math_Float64bits N v5.1).bind fun v6 => (bif (decide (((IntKind.i64.wrap ((IntKind.i64.wrap (v2 + v5.2)) + (IntKind.i64.wrap ((bits .and .i64 (IntKind.i64.wrap (Int.fdiv v6 (2 ^ (min (52 : Int).toNat (IntKind.bits .u64))))) 2047) - 1023)))) : Int) < (-1075))) then ((math_Copysign N 0 v5.1).bind fun v7 => (some v7)) else (bif (decide (((IntKind.i64.wrap ((IntKind.i64.wrap (v2 + v5.2)) + (IntKind.i64.wrap ((bits .and .i64 (IntKind.i64.wrap (Int.fdiv v6 (2 ^ (min (52 : Int).toNat (IntKind.bits .u64))))) 2047) - 1023)))) : Int) > 1023)) then (bif (flt v5.1 0) then ((math_Inf N (-1)).bind fun v8 => (some v8)) else ((math_Inf N 1).bind fun v9 => (some v9))) else (bif (decide (((IntKind.i64.wrap ((IntKind.i64.wrap (v2 + v5.2)) + (IntKind.i64.wrap ((bits .and .i64 (IntKind.i64.wrap (Int.fdiv v6 (2 ^ (min (52 : Int).toNat (IntKind.bits .u64))))) 2047) - 1023)))) : Int) < (-1022))) then (c0 v6 (IntKind.i64.wrap ((IntKind.i64.wrap ((IntKind.i64.wrap (v2 + v5.2)) + (IntKind.i64.wrap ((bits .and .i64 (IntKind.i64.wrap (Int.fdiv v6 (2 ^ (min (52 : Int).toNat (IntKind.bits .u64))))) 2047) - 1023)))) + 53)) 4368491638549381120) else (c0 v6 (IntKind.i64.wrap ((IntKind.i64.wrap (v2 + v5.2)) + (IntKind.i64.wrap ((bits .and .i64 (IntKind.i64.wrap (Int.fdiv v6 (2 ^ (min (52 : Int).toNat (IntKind.bits .u64))))) 2047) - 1023)))) 4607182418800017408))))))))))
def math_ldexp (N : Nat) (v1 : Nat) (v2 : Int) : Option (Nat) :=
  math_ldexp_g N v1 v2 (math_ldexp_j0 N)
set_option maxRecDepth 100000
noncomputable def math_ldexp_e0 (N : Nat) (v6 : Int) (v10 : Int) (v11 : Nat) : Option (HR [.float]) :=
  gate N (evC (math_ldexp_E N) (codeAt (bodyOf Try.f104) [1, 1, 1, 1, 1, 1, 1, 1, 1, 1]) ⟨[(1, .pv (.int .i64) v10), (6, .pv (.int .u64) v6), (7, .pv .float v11)], [], []⟩ (kEnd (math_ldexp_E N) [] Try.f104.results.toList [.float]))
theorem math_ldexp_t0 (N : Nat) (v6 : Int) (v10 : Int) (v11 : Nat) : math_ldexp_e0 N v6 v10 v11 = math_ldexp_j0 N v6 v10 v11 := by
  exact (congrArg (gate N) (show evC (math_ldexp_E N) (codeAt (bodyOf Try.f104) [1, 1, 1, 1, 1, 1, 1, 1, 1, 1]) ⟨[(1, .pv (.int .i64) v10), (6, .pv (.int .u64) v6), (7, .pv .float v11)], [], []⟩ (kEnd (math_ldexp_E N) [] Try.f104.results.toList [.float]) = math_ldexp_g0 N v6 v10 v11 from by kernel_rfl)).trans (by rfl)
theorem math_ldexp_t (N : Nat) (v1 : Nat) (v2 : Int) : evF (math_ldexp_E N) [] Try.f104 [.k .float, .k (.int .i64)] [.float] (v1, v2, ()) = math_ldexp N v1 v2 := by
  have h0 : (math_ldexp_e0 N) = (math_ldexp_j0 N) := by funext v6 v10 v11; exact math_ldexp_t0 N v6 v10 v11
  exact (show evF (math_ldexp_E N) [] Try.f104 [.k .float, .k (.int .i64)] [.float] (v1, v2, ()) = math_ldexp_g N v1 v2 (math_ldexp_e0 N) from by kernel_rfl).trans (by rw [h0]; rfl)
noncomputable def math_ldexp_con (N : Nat) : Con := ⟨104, [.k .float, .k (.int .i64)], [.float], fun x => math_ldexp N x.1 x.2.1⟩
theorem math_ldexp_s (N : Nat) : (math_ldexp_con N).Sound Try.prog :=
  Con.sound_of (c := math_ldexp_con N) (E := (math_ldexp_E N)) (idle := []) Try.func104 (by kernel_rfl) (by kernel_rfl) ⟨(allCons (math_IsInf_s N) (allCons (math_IsNaN_s N) (allCons (math_normalize_s N) (allCons (math_Float64bits_s N) (allCons (math_Copysign_s N) (allCons (math_Inf_s N) (allCons (math_Float64frombits_s N) allNil))))))), allNil⟩ allNil (fun x y h => (math_ldexp_t N x.1 x.2.1).trans h)
/-- math.Ldexp -/
noncomputable def math_Ldexp_E (N : Nat) : Env := ⟨Try.prog, N, [math_ldexp_con N], [(0, ⟨[], [], [0, 1], [], none⟩), (1, ⟨[], [], [0, 1], [], none⟩), (2, ⟨[], [], [0, 1], [], none⟩)], kdL [], []⟩
def math_Ldexp_g (N : Nat) (v1 : Nat) (v2 : Int) : Option (Nat) :=
  ((math_ldexp N v1 v2).bind fun v3 => (some v3))
def math_Ldexp (N : Nat) (v1 : Nat) (v2 : Int) : Option (Nat) :=
  math_Ldexp_g N v1 v2
set_option maxRecDepth 100000
theorem math_Ldexp_t (N : Nat) (v1 : Nat) (v2 : Int) : evF (math_Ldexp_E N) [] Try.f72 [.k .float, .k (.int .i64)] [.float] (v1, v2, ()) = math_Ldexp N v1 v2 := by
  exact (show evF (math_Ldexp_E N) [] Try.f72 [.k .float, .k (.int .i64)] [.float] (v1, v2, ()) = math_Ldexp_g N v1 v2 from by kernel_rfl).trans (by rfl)
noncomputable def math_Ldexp_con (N : Nat) : Con := ⟨72, [.k .float, .k (.int .i64)], [.float], fun x => math_Ldexp N x.1 x.2.1⟩
theorem math_Ldexp_s (N : Nat) : (math_Ldexp_con N).Sound Try.prog :=
  Con.sound_of (c := math_Ldexp_con N) (E := (math_Ldexp_E N)) (idle := []) Try.func72 (by kernel_rfl) (by kernel_rfl) ⟨(allCons (math_ldexp_s N) allNil), allNil⟩ allNil (fun x y h => (math_Ldexp_t N x.1 x.2.1).trans h)
/-- (pub-orthodrome/spec.Dyadic).Float -/
noncomputable def spec_Dyadic_Float_E (N : Nat) : Env := ⟨Try.prog, N, [spec_Dyadic_Sign_con N, spec_Whole_top_con N, spec_Whole_bit_con N, spec_Whole_low_con N, math_Ldexp_con N], [(0, ⟨[], [], [0], [], none⟩), (1, ⟨[], [], [1], [1], none⟩), (2, ⟨[], [], [1, 10], [1], none⟩), (3, ⟨[], [], [1], [1], none⟩), (4, ⟨[], [], [1, 3], [1], none⟩), (5, ⟨[], [], [1, 3, 4], [1], none⟩), (6, ⟨[], [], [1, 3, 4, 5], [1], none⟩), (7, ⟨[], [], [1, 3, 4, 5, 6], [1], none⟩), (8, ⟨[], [], [1, 3, 4, 5, 6], [1], some N⟩), (9, ⟨[], [], [1, 3, 4, 5, 6], [1], none⟩), (10, ⟨[], [], [1, 3, 4, 5, 6], [1], none⟩), (11, ⟨[], [], [1, 3, 4, 5, 6, 39], [1], none⟩), (12, ⟨[], [], [1, 4, 5], [1], none⟩), (13, ⟨[], [], [1, 4, 5, 62], [1], some N⟩), (14, ⟨[], [], [1, 4, 5], [1], some N⟩), (15, ⟨[], [], [1, 7], [1], none⟩), (16, ⟨[], [], [7, 74], [], none⟩), (17, ⟨[], [], [7], [], none⟩)], kdL [], []⟩
def spec_Dyadic_Float_g1 (N : Nat) (v3 : Int) (v1 : ((Bool × ((List Int) × Unit)) × (Int × Unit))) (v4 : Int) (v9 : Int) (r0 : Int → Int → Option (Nat)) (v12 : Int) : Option (Nat) :=
  (r0 v12 (IntKind.i64.wrap (v9 + 1)))
def spec_Dyadic_Float_j1 (N : Nat) (r0 : Int → Int → Option (Nat)) (v3 : Int) (v1 : ((Bool × ((List Int) × Unit)) × (Int × Unit))) (v4 : Int) (v9 : Int) (v12 : Int) : Option (Nat) :=
  gate N (spec_Dyadic_Float_g1 N v3 v1 v4 v9 r0 v12)
def spec_Dyadic_Float_g3 (N : Nat) (v4 : Int) (v3 : Int) (v1 : ((Bool × ((List Int) × Unit)) × (Int × Unit))) (v15 : Int) : Option (Nat) :=
  (math_Ldexp N (i2f v15) (IntKind.i64.wrap (v1.2.1 + (IntKind.i64.wrap (v4 - (imm false 53 (IntKind.i64.wrap ((IntKind.i64.wrap (v3 + v1.2.1)) + 1074)))))))).bind fun v16 => (bif v1.1.1 then (some (fneg v16)) else (some v16))
def spec_Dyadic_Float_j3 (N : Nat) (v4 : Int) (v3 : Int) (v1 : ((Bool × ((List Int) × Unit)) × (Int × Unit))) (v15 : Int) : Option (Nat) :=
  gate N (spec_Dyadic_Float_g3 N v4 v3 v1 v15)
def spec_Dyadic_Float_g2 (N : Nat) (v4 : Int) (v3 : Int) (v1 : ((Bool × ((List Int) × Unit)) × (Int × Unit))) (v8 : Int) (c3 : Int → Int → ((Bool × ((List Int) × Unit)) × (Int × Unit)) → Int → Option (Nat)) : Option (Nat) :=
  (c3 v4 v3 v1 v8)
def spec_Dyadic_Float_j2 (N : Nat) (v4 : Int) (v3 : Int) (v1 : ((Bool × ((List Int) × Unit)) × (Int × Unit))) (v8 : Int) : Option (Nat) :=
  gate N (spec_Dyadic_Float_g2 N v4 v3 v1 v8 (spec_Dyadic_Float_j3 N))
def spec_Dyadic_Float_g0 (N : Nat) (v3 : Int) (v1 : ((Bool × ((List Int) × Unit)) × (Int × Unit))) (v4 : Int) (c1 : Int → Int → Option (Nat)) (c3 : Int → Int → ((Bool × ((List Int) × Unit)) × (Int × Unit)) → Int → Option (Nat)) (c2 : Int → Int → ((Bool × ((List Int) × Unit)) × (Int × Unit)) → Int → Option (Nat)) (r0 : Int → Int → Option (Nat)) (v8 : Int) (v9 : Int) : Option (Nat) :=
  (bif (decide ((v9 : Int) < (imm false 53 (IntKind.i64.wrap ((IntKind.i64.wrap (v3 + v1.2.1)) + 1074))))) then ((spec_Whole_top N (v1.1.1, v1.1.2.1, ())).bind fun v10 => (spec_Whole_bit N (v1.1.1, v1.1.2.1, ()) (IntKind.i64.wrap ((IntKind.i64.wrap (v10 - 1)) - v9))).bind fun v11 => (bif v11 then (c1 v9 (IntKind.u64.wrap ((IntKind.u64.wrap (v8 * 2 ^ (min (1 : Int).toNat (IntKind.bits .u64)))) + 1))) else (c1 v9 (IntKind.u64.wrap (v8 * 2 ^ (min (1 : Int).toNat (IntKind.bits .u64))))))) else (bif (decide (((IntKind.i64.wrap (v4 - (imm false 53 (IntKind.i64.wrap ((IntKind.i64.wrap (v3 + v1.2.1)) + 1074))))) : Int) > 0)) then ((spec_Whole_bit N (v1.1.1, v1.1.2.1, ()) (IntKind.i64.wrap ((IntKind.i64.wrap (v4 - (imm false 53 (IntKind.i64.wrap ((IntKind.i64.wrap (v3 + v1.2.1)) + 1074))))) - 1))).bind fun v13 => bif v13 then (bif ((Int.tmod v8 2) == 1) then (gate N (c3 v4 v3 v1 (IntKind.u64.wrap (v8 + 1)))) else ((spec_Whole_low N (v1.1.1, v1.1.2.1, ()) (IntKind.i64.wrap ((IntKind.i64.wrap (v4 - (imm false 53 (IntKind.i64.wrap ((IntKind.i64.wrap (v3 + v1.2.1)) + 1074))))) - 1))).bind fun v14 => (gate N (bif v14 then (c3 v4 v3 v1 (IntKind.u64.wrap (v8 + 1))) else (c3 v4 v3 v1 v8))))) else (c2 v4 v3 v1 v8)) else (c2 v4 v3 v1 v8)))
def spec_Dyadic_Float_l0 (N : Nat) : Nat → Int → ((Bool × ((List Int) × Unit)) × (Int × Unit)) → Int → Int → Int → Option (Nat)
  | 0, _, _, _, _, _ => none
  | n + 1, v3, v1, v4, v8, v9 => spec_Dyadic_Float_g0 N v3 v1 v4 (spec_Dyadic_Float_j1 N (spec_Dyadic_Float_l0 N n v3 v1 v4) v3 v1 v4) (spec_Dyadic_Float_j3 N) (spec_Dyadic_Float_j2 N) (spec_Dyadic_Float_l0 N n v3 v1 v4) v8 v9
def spec_Dyadic_Float_g (N : Nat) (v1 : ((Bool × ((List Int) × Unit)) × (Int × Unit))) (c0 : Int → ((Bool × ((List Int) × Unit)) × (Int × Unit)) → Int → Int → Int → Option (Nat)) : Option (Nat) :=
  ((spec_Dyadic_Sign N ((v1.1.1, v1.1.2.1, ()), v1.2.1, ())).bind fun v2 => (bif (v2 == 0) then (some 0) else ((spec_Whole_top N (v1.1.1, v1.1.2.1, ())).bind fun v3 => ((spec_Whole_top N (v1.1.1, v1.1.2.1, ())).bind fun v4 => ((c0 v3 v1 v4 0 0))))))
def spec_Dyadic_Float (N : Nat) (v1 : ((Bool × ((List Int) × Unit)) × (Int × Unit))) : Option (Nat) :=
  spec_Dyadic_Float_g N v1 (spec_Dyadic_Float_l0 N N)
set_option maxRecDepth 100000
noncomputable def spec_Dyadic_Float_e1 (N : Nat) (m0 : Nat) (v3 : Int) (v1 : ((Bool × ((List Int) × Unit)) × (Int × Unit))) (v4 : Int) (v9 : Int) (v12 : Int) : Option (HR [.float]) :=
  gate N (evC (spec_Dyadic_Float_E N) (codeAt (bodyOf Try.f32) [1, 1, 1, 1, 1, 0, 1, 0, 0, 1, 1]) ⟨[(1, .ref 1 0), (3, .pv (.int .i64) (imm false 53 (IntKind.i64.wrap ((IntKind.i64.wrap (v3 + v1.2.1)) + 1074)))), (4, .pv (.int .i64) (IntKind.i64.wrap (v4 - (imm false 53 (IntKind.i64.wrap ((IntKind.i64.wrap (v3 + v1.2.1)) + 1074)))))), (5, .pv (.int .u64) v12), (6, .pv (.int .i64) v9)], [(1, .box [.pv .bool v1.1.1, .pv (.list (.int .u32)) v1.1.2.1, .pv (.int .i64) v1.2.1])], []⟩ (kSeq (advOf (spec_Dyadic_Float_E N) (codeAt (bodyOf Try.f32) [1, 1, 1, 1, 1, 0, 1, 0, 0])) (fun st K => loopN (advOf (spec_Dyadic_Float_E N) (codeAt (bodyOf Try.f32) [1, 1, 1, 1, 1, 0, 1, 0, 0])) (evC (spec_Dyadic_Float_E N) (codeAt (bodyOf Try.f32) [1, 1, 1, 1, 1, 0, 1, 0, 0])) m0 st K) (kBlock 0 (kSeq (advOf (spec_Dyadic_Float_E N) (codeAt (bodyOf Try.f32) [1, 1, 1, 1, 1, 1])) (evC (spec_Dyadic_Float_E N) (codeAt (bodyOf Try.f32) [1, 1, 1, 1, 1, 1])) (kEnd (spec_Dyadic_Float_E N) [] Try.f32.results.toList [.float])))))
noncomputable def spec_Dyadic_Float_e3 (N : Nat) (v4 : Int) (v3 : Int) (v1 : ((Bool × ((List Int) × Unit)) × (Int × Unit))) (v15 : Int) : Option (HR [.float]) :=
  gate N (evC (spec_Dyadic_Float_E N) (codeAt (bodyOf Try.f32) [1, 1, 1, 1, 1, 1, 1]) ⟨[(1, .ref 1 0), (4, .pv (.int .i64) (IntKind.i64.wrap (v4 - (imm false 53 (IntKind.i64.wrap ((IntKind.i64.wrap (v3 + v1.2.1)) + 1074)))))), (5, .pv (.int .u64) v15)], [(1, .box [.pv .bool v1.1.1, .pv (.list (.int .u32)) v1.1.2.1, .pv (.int .i64) v1.2.1])], []⟩ (kEnd (spec_Dyadic_Float_E N) [] Try.f32.results.toList [.float]))
noncomputable def spec_Dyadic_Float_e2 (N : Nat) (v4 : Int) (v3 : Int) (v1 : ((Bool × ((List Int) × Unit)) × (Int × Unit))) (v8 : Int) : Option (HR [.float]) :=
  gate N (evC (spec_Dyadic_Float_E N) (codeAt (bodyOf Try.f32) [1, 1, 1, 1, 1, 1, 0, 1]) ⟨[(1, .ref 1 0), (4, .pv (.int .i64) (IntKind.i64.wrap (v4 - (imm false 53 (IntKind.i64.wrap ((IntKind.i64.wrap (v3 + v1.2.1)) + 1074)))))), (5, .pv (.int .u64) v8), (62, .pv .bool false)], [(1, .box [.pv .bool v1.1.1, .pv (.list (.int .u32)) v1.1.2.1, .pv (.int .i64) v1.2.1])], []⟩ (kSeq (advOf (spec_Dyadic_Float_E N) (codeAt (bodyOf Try.f32) [1, 1, 1, 1, 1, 1, 1])) (evC (spec_Dyadic_Float_E N) (codeAt (bodyOf Try.f32) [1, 1, 1, 1, 1, 1, 1])) (kEnd (spec_Dyadic_Float_E N) [] Try.f32.results.toList [.float])))
noncomputable def spec_Dyadic_Float_e0 (N : Nat) (n : Nat) (v3 : Int) (v1 : ((Bool × ((List Int) × Unit)) × (Int × Unit))) (v4 : Int) (v8 : Int) (v9 : Int) : Option (HR [.float]) :=
  loopN (advOf (spec_Dyadic_Float_E N) (codeAt (bodyOf Try.f32) [1, 1, 1, 1, 1, 0, 1, 0, 0])) (evC (spec_Dyadic_Float_E N) (codeAt (bodyOf Try.f32) [1, 1, 1, 1, 1, 0, 1, 0, 0])) n ⟨[(1, .ref 1 0), (3, .pv (.int .i64) (imm false 53 (IntKind.i64.wrap ((IntKind.i64.wrap (v3 + v1.2.1)) + 1074)))), (4, .pv (.int .i64) (IntKind.i64.wrap (v4 - (imm false 53 (IntKind.i64.wrap ((IntKind.i64.wrap (v3 + v1.2.1)) + 1074)))))), (5, .pv (.int .u64) v8), (6, .pv (.int .i64) v9)], [(1, .box [.pv .bool v1.1.1, .pv (.list (.int .u32)) v1.1.2.1, .pv (.int .i64) v1.2.1])], []⟩ (kBlock 0 (kSeq (advOf (spec_Dyadic_Float_E N) (codeAt (bodyOf Try.f32) [1, 1, 1, 1, 1, 1])) (evC (spec_Dyadic_Float_E N) (codeAt (bodyOf Try.f32) [1, 1, 1, 1, 1, 1])) (kEnd (spec_Dyadic_Float_E N) [] Try.f32.results.toList [.float])))
theorem spec_Dyadic_Float_t1 (N : Nat) (m0 : Nat) (v3 : Int) (v1 : ((Bool × ((List Int) × Unit)) × (Int × Unit))) (v4 : Int) (v9 : Int) (v12 : Int) : spec_Dyadic_Float_e1 N m0 v3 v1 v4 v9 v12 = spec_Dyadic_Float_j1 N (spec_Dyadic_Float_e0 N m0 v3 v1 v4) v3 v1 v4 v9 v12 := by
  exact (congrArg (gate N) (show evC (spec_Dyadic_Float_E N) (codeAt (bodyOf Try.f32) [1, 1, 1, 1, 1, 0, 1, 0, 0, 1, 1]) ⟨[(1, .ref 1 0), (3, .pv (.int .i64) (imm false 53 (IntKind.i64.wrap ((IntKind.i64.wrap (v3 + v1.2.1)) + 1074)))), (4, .pv (.int .i64) (IntKind.i64.wrap (v4 - (imm false 53 (IntKind.i64.wrap ((IntKind.i64.wrap (v3 + v1.2.1)) + 1074)))))), (5, .pv (.int .u64) v12), (6, .pv (.int .i64) v9)], [(1, .box [.pv .bool v1.1.1, .pv (.list (.int .u32)) v1.1.2.1, .pv (.int .i64) v1.2.1])], []⟩ (kSeq (advOf (spec_Dyadic_Float_E N) (codeAt (bodyOf Try.f32) [1, 1, 1, 1, 1, 0, 1, 0, 0])) (fun st K => loopN (advOf (spec_Dyadic_Float_E N) (codeAt (bodyOf Try.f32) [1, 1, 1, 1, 1, 0, 1, 0, 0])) (evC (spec_Dyadic_Float_E N) (codeAt (bodyOf Try.f32) [1, 1, 1, 1, 1, 0, 1, 0, 0])) m0 st K) (kBlock 0 (kSeq (advOf (spec_Dyadic_Float_E N) (codeAt (bodyOf Try.f32) [1, 1, 1, 1, 1, 1])) (evC (spec_Dyadic_Float_E N) (codeAt (bodyOf Try.f32) [1, 1, 1, 1, 1, 1])) (kEnd (spec_Dyadic_Float_E N) [] Try.f32.results.toList [.float])))) = spec_Dyadic_Float_g1 N v3 v1 v4 v9 (spec_Dyadic_Float_e0 N m0 v3 v1 v4) v12 from by kernel_rfl)).trans (by rfl)
theorem spec_Dyadic_Float_t3 (N : Nat) (v4 : Int) (v3 : Int) (v1 : ((Bool × ((List Int) × Unit)) × (Int × Unit))) (v15 : Int) : spec_Dyadic_Float_e3 N v4 v3 v1 v15 = spec_Dyadic_Float_j3 N v4 v3 v1 v15 := by
  exact (congrArg (gate N) (show evC (spec_Dyadic_Float_E N) (codeAt (bodyOf Try.f32) [1, 1, 1, 1, 1, 1, 1]) ⟨[(1, .ref 1 0), (4, .pv (.int .i64) (IntKind.i64.wrap (v4 - (imm false 53 (IntKind.i64.wrap ((IntKind.i64.wrap (v3 + v1.2.1)) + 1074)))))), (5, .pv (.int .u64) v15)], [(1, .box [.pv .bool v1.1.1, .pv (.list (.int .u32)) v1.1.2.1, .pv (.int .i64) v1.2.1])], []⟩ (kEnd (spec_Dyadic_Float_E N) [] Try.f32.results.toList [.float]) = spec_Dyadic_Float_g3 N v4 v3 v1 v15 from by kernel_rfl)).trans (by rfl)
theorem spec_Dyadic_Float_t2 (N : Nat) (v4 : Int) (v3 : Int) (v1 : ((Bool × ((List Int) × Unit)) × (Int × Unit))) (v8 : Int) : spec_Dyadic_Float_e2 N v4 v3 v1 v8 = spec_Dyadic_Float_j2 N v4 v3 v1 v8 := by
  have h3 : (spec_Dyadic_Float_e3 N) = (spec_Dyadic_Float_j3 N) := by funext v4 v3 v1 v15; exact spec_Dyadic_Float_t3 N v4 v3 v1 v15
  exact (congrArg (gate N) (show evC (spec_Dyadic_Float_E N) (codeAt (bodyOf Try.f32) [1, 1, 1, 1, 1, 1, 0, 1]) ⟨[(1, .ref 1 0), (4, .pv (.int .i64) (IntKind.i64.wrap (v4 - (imm false 53 (IntKind.i64.wrap ((IntKind.i64.wrap (v3 + v1.2.1)) + 1074)))))), (5, .pv (.int .u64) v8), (62, .pv .bool false)], [(1, .box [.pv .bool v1.1.1, .pv (.list (.int .u32)) v1.1.2.1, .pv (.int .i64) v1.2.1])], []⟩ (kSeq (advOf (spec_Dyadic_Float_E N) (codeAt (bodyOf Try.f32) [1, 1, 1, 1, 1, 1, 1])) (evC (spec_Dyadic_Float_E N) (codeAt (bodyOf Try.f32) [1, 1, 1, 1, 1, 1, 1])) (kEnd (spec_Dyadic_Float_E N) [] Try.f32.results.toList [.float])) = spec_Dyadic_Float_g2 N v4 v3 v1 v8 (spec_Dyadic_Float_e3 N) from by kernel_rfl)).trans (by rw [h3]; rfl)
theorem spec_Dyadic_Float_t0 (N : Nat) : ∀ (n : Nat) (v3 : Int) (v1 : ((Bool × ((List Int) × Unit)) × (Int × Unit))) (v4 : Int) (v8 : Int) (v9 : Int), spec_Dyadic_Float_e0 N n v3 v1 v4 v8 v9 = spec_Dyadic_Float_l0 N n v3 v1 v4 v8 v9
  | 0, _, _, _, _, _ => rfl
  | n + 1, v3, v1, v4, v8, v9 => by
    have h1 : (spec_Dyadic_Float_e1 N n v3 v1 v4) = (spec_Dyadic_Float_j1 N (spec_Dyadic_Float_e0 N n v3 v1 v4) v3 v1 v4) := by funext v9 v12; exact spec_Dyadic_Float_t1 N n v3 v1 v4 v9 v12
    have h3 : (spec_Dyadic_Float_e3 N) = (spec_Dyadic_Float_j3 N) := by funext v4 v3 v1 v15; exact spec_Dyadic_Float_t3 N v4 v3 v1 v15
    have h2 : (spec_Dyadic_Float_e2 N) = (spec_Dyadic_Float_j2 N) := by funext v4 v3 v1 v8; exact spec_Dyadic_Float_t2 N v4 v3 v1 v8
    have h : spec_Dyadic_Float_e0 N n v3 v1 v4 = spec_Dyadic_Float_l0 N n v3 v1 v4 := by funext v8 v9; exact spec_Dyadic_Float_t0 N n v3 v1 v4 v8 v9
    exact (show spec_Dyadic_Float_e0 N (n + 1) v3 v1 v4 v8 v9 = spec_Dyadic_Float_g0 N v3 v1 v4 (spec_Dyadic_Float_e1 N n v3 v1 v4) (spec_Dyadic_Float_e3 N) (spec_Dyadic_Float_e2 N) (spec_Dyadic_Float_e0 N n v3 v1 v4) v8 v9 from by kernel_rfl).trans (by rw [h1, h3, h2, h]; rfl)
theorem spec_Dyadic_Float_t (N : Nat) (v1 : ((Bool × ((List Int) × Unit)) × (Int × Unit))) : evF (spec_Dyadic_Float_E N) [] Try.f32 [.k (.pair (.pair .bool (.pair (.list (.int .u32)) .unit)) (.pair (.int .i64) .unit))] [.float] (v1, ()) = spec_Dyadic_Float N v1 := by
  have h0 : (spec_Dyadic_Float_e0 N N) = (spec_Dyadic_Float_l0 N N) := by funext v3 v1 v4 v8 v9; exact spec_Dyadic_Float_t0 N N v3 v1 v4 v8 v9
  exact (show evF (spec_Dyadic_Float_E N) [] Try.f32 [.k (.pair (.pair .bool (.pair (.list (.int .u32)) .unit)) (.pair (.int .i64) .unit))] [.float] (v1, ()) = spec_Dyadic_Float_g N v1 (spec_Dyadic_Float_e0 N N) from by kernel_rfl).trans (by rw [h0]; rfl)
noncomputable def spec_Dyadic_Float_con (N : Nat) : Con := ⟨32, [.k (.pair (.pair .bool (.pair (.list (.int .u32)) .unit)) (.pair (.int .i64) .unit))], [.float], fun x => spec_Dyadic_Float N x.1⟩
theorem spec_Dyadic_Float_s (N : Nat) : (spec_Dyadic_Float_con N).Sound Try.prog :=
  Con.sound_of (c := spec_Dyadic_Float_con N) (E := (spec_Dyadic_Float_E N)) (idle := []) Try.func32 (by kernel_rfl) (by kernel_rfl) ⟨(allCons (spec_Dyadic_Sign_s N) (allCons (spec_Whole_top_s N) (allCons (spec_Whole_bit_s N) (allCons (spec_Whole_low_s N) (allCons (math_Ldexp_s N) allNil))))), allNil⟩ allNil (fun x y h => (spec_Dyadic_Float_t N x.1).trans h)
/-- pub-orthodrome/laws.rootOf -/
noncomputable def laws_rootOf_E (N : Nat) : Env := ⟨Try.prog, N, [spec_Dyadic_Float_con N, math_Sqrt_con N], [(0, ⟨[], [], [0], [], none⟩), (1, ⟨[], [], [1], [1], none⟩)], kdL [], []⟩
def laws_rootOf_g (N : Nat) (v1 : (((Bool × ((List Int) × Unit)) × (Int × Unit)) × (((Bool × ((List Int) × Unit)) × (Int × Unit)) × Unit))) : Option (Nat) :=
  ((spec_Dyadic_Float N ((v1.1.1.1, v1.1.1.2.1, ()), v1.1.2.1, ())).bind fun v2 => (spec_Dyadic_Float N ((v1.2.1.1.1, v1.2.1.1.2.1, ()), v1.2.1.2.1, ())).bind fun v3 => (Ieee.double.div v2 v3).bind fun v4 => (math_Sqrt N v4).bind fun v5 => (some v5))
def laws_rootOf (N : Nat) (v1 : (((Bool × ((List Int) × Unit)) × (Int × Unit)) × (((Bool × ((List Int) × Unit)) × (Int × Unit)) × Unit))) : Option (Nat) :=
  laws_rootOf_g N v1
set_option maxRecDepth 100000
theorem laws_rootOf_t (N : Nat) (v1 : (((Bool × ((List Int) × Unit)) × (Int × Unit)) × (((Bool × ((List Int) × Unit)) × (Int × Unit)) × Unit))) : evF (laws_rootOf_E N) [] Try.f38 [.k (.pair (.pair (.pair .bool (.pair (.list (.int .u32)) .unit)) (.pair (.int .i64) .unit)) (.pair (.pair (.pair .bool (.pair (.list (.int .u32)) .unit)) (.pair (.int .i64) .unit)) .unit))] [.float] (v1, ()) = laws_rootOf N v1 := by
  exact (show evF (laws_rootOf_E N) [] Try.f38 [.k (.pair (.pair (.pair .bool (.pair (.list (.int .u32)) .unit)) (.pair (.int .i64) .unit)) (.pair (.pair (.pair .bool (.pair (.list (.int .u32)) .unit)) (.pair (.int .i64) .unit)) .unit))] [.float] (v1, ()) = laws_rootOf_g N v1 from by kernel_rfl).trans (by rfl)
noncomputable def laws_rootOf_con (N : Nat) : Con := ⟨38, [.k (.pair (.pair (.pair .bool (.pair (.list (.int .u32)) .unit)) (.pair (.int .i64) .unit)) (.pair (.pair (.pair .bool (.pair (.list (.int .u32)) .unit)) (.pair (.int .i64) .unit)) .unit))], [.float], fun x => laws_rootOf N x.1⟩
theorem laws_rootOf_s (N : Nat) : (laws_rootOf_con N).Sound Try.prog :=
  Con.sound_of (c := laws_rootOf_con N) (E := (laws_rootOf_E N)) (idle := []) Try.func38 (by kernel_rfl) (by kernel_rfl) ⟨(allCons (spec_Dyadic_Float_s N) (allCons (math_Sqrt_s N) allNil)), allNil⟩ allNil (fun x y h => (laws_rootOf_t N x.1).trans h)
/-- pub-orthodrome/laws.nearTo -/
noncomputable def laws_nearTo_E (N : Nat) : Env := ⟨Try.prog, N, [math_Abs_con N], [(0, ⟨[], [], [0, 1], [], none⟩), (1, ⟨[], [], [0, 1], [], none⟩)], kdL [], []⟩
def laws_nearTo_g (N : Nat) (v1 : Nat) (v2 : Nat) : Option (Bool) :=
  ((Ieee.double.sub v1 v2).bind fun v3 => (math_Abs N v3).bind fun v4 => (some (flt v4 4517110426252607488)))
def laws_nearTo (N : Nat) (v1 : Nat) (v2 : Nat) : Option (Bool) :=
  laws_nearTo_g N v1 v2
set_option maxRecDepth 100000
theorem laws_nearTo_t (N : Nat) (v1 : Nat) (v2 : Nat) : evF (laws_nearTo_E N) [] Try.f29 [.k .float, .k .float] [.bool] (v1, v2, ()) = laws_nearTo N v1 v2 := by
  exact (show evF (laws_nearTo_E N) [] Try.f29 [.k .float, .k .float] [.bool] (v1, v2, ()) = laws_nearTo_g N v1 v2 from by kernel_rfl).trans (by rfl)
noncomputable def laws_nearTo_con (N : Nat) : Con := ⟨29, [.k .float, .k .float], [.bool], fun x => laws_nearTo N x.1 x.2.1⟩
theorem laws_nearTo_s (N : Nat) : (laws_nearTo_con N).Sound Try.prog :=
  Con.sound_of (c := laws_nearTo_con N) (E := (laws_nearTo_E N)) (idle := []) Try.func29 (by kernel_rfl) (by kernel_rfl) ⟨(allCons (math_Abs_s N) allNil), allNil⟩ allNil (fun x y h => (laws_nearTo_t N x.1 x.2.1).trans h)
/-- pub-orthodrome/laws.FnPointLineDistance -/
noncomputable def laws_FnPointLineDistance_E (N : Nat) : Env := ⟨Try.prog, N, [laws_planeTo_con N, impl_PointLineDistance_con N, laws_exactly_con N, spec_SquareTo_con N, laws_rootOf_con N, laws_nearTo_con N], [(0, ⟨[], [], [0, 1, 2], [], none⟩), (1, ⟨[], [], [3, 4, 5], [3, 4, 5], none⟩), (2, ⟨[], [], [3, 4, 5, 12], [3, 4, 5], none⟩), (3, ⟨[], [], [3, 4, 5], [3, 4, 5], none⟩)], kdL [(24, (.pair .float (.pair .float .unit)))], []⟩
def laws_FnPointLineDistance_g (N : Nat) (v1 : (Nat × (Nat × Unit))) (v2 : (Nat × (Nat × Unit))) (v3 : (Nat × (Nat × Unit))) : Option (Bool) :=
  ((laws_planeTo N 4665729213955833856 ([(v1.1, v1.2.1, ()), (v2.1, v2.2.1, ()), (v3.1, v3.2.1, ())] : List (Nat × (Nat × Unit)))).bind fun v4 => (bif (!v4) then (some true) else ((impl_PointLineDistance N (v1.1, v1.2.1, ()) (v2.1, v2.2.1, ()) (v3.1, v3.2.1, ())).bind fun v5 => (laws_exactly N (v1.1, v1.2.1, ())).bind fun v6 => (laws_exactly N (v2.1, v2.2.1, ())).bind fun v7 => (laws_exactly N (v3.1, v3.2.1, ())).bind fun v8 => (spec_SquareTo N v6 v7 v8).bind fun v9 => (laws_rootOf N v9).bind fun v10 => (laws_nearTo N v5 v10).bind fun v11 => (some v11))))
def laws_FnPointLineDistance (N : Nat) (v1 : (Nat × (Nat × Unit))) (v2 : (Nat × (Nat × Unit))) (v3 : (Nat × (Nat × Unit))) : Option (Bool) :=
  laws_FnPointLineDistance_g N v1 v2 v3
set_option maxRecDepth 100000
theorem laws_FnPointLineDistance_t (N : Nat) (v1 : (Nat × (Nat × Unit))) (v2 : (Nat × (Nat × Unit))) (v3 : (Nat × (Nat × Unit))) : evF (laws_FnPointLineDistance_E N) [] Try.f8 [.k (.pair .float (.pair .float .unit)), .k (.pair .float (.pair .float .unit)), .k (.pair .float (.pair .float .unit))] [.bool] (v1, v2, v3, ()) = laws_FnPointLineDistance N v1 v2 v3 := by
  exact (show evF (laws_FnPointLineDistance_E N) [] Try.f8 [.k (.pair .float (.pair .float .unit)), .k (.pair .float (.pair .float .unit)), .k (.pair .float (.pair .float .unit))] [.bool] (v1, v2, v3, ()) = laws_FnPointLineDistance_g N v1 v2 v3 from by kernel_rfl).trans (by rfl)
noncomputable def laws_FnPointLineDistance_con (N : Nat) : Con := ⟨8, [.k (.pair .float (.pair .float .unit)), .k (.pair .float (.pair .float .unit)), .k (.pair .float (.pair .float .unit))], [.bool], fun x => laws_FnPointLineDistance N x.1 x.2.1 x.2.2.1⟩
theorem laws_FnPointLineDistance_s (N : Nat) : (laws_FnPointLineDistance_con N).Sound Try.prog :=
  Con.sound_of (c := laws_FnPointLineDistance_con N) (E := (laws_FnPointLineDistance_E N)) (idle := []) Try.func8 (by kernel_rfl) (by kernel_rfl) ⟨(allCons (laws_planeTo_s N) (allCons (impl_PointLineDistance_s N) (allCons (laws_exactly_s N) (allCons (spec_SquareTo_s N) (allCons (laws_rootOf_s N) (allCons (laws_nearTo_s N) allNil)))))), allNil⟩ allNil (fun x y h => (laws_FnPointLineDistance_t N x.1 x.2.1 x.2.2.1).trans h)
/-- (pub-orthodrome/spec.Ratio).Cmp -/
noncomputable def spec_Ratio_Cmp_E (N : Nat) : Env := ⟨Try.prog, N, [spec_Dyadic_Mul_con N, spec_Dyadic_Cmp_con N], [(0, ⟨[], [], [0, 1], [], none⟩), (1, ⟨[], [], [2, 3], [2, 3], none⟩)], kdL [], []⟩
def spec_Ratio_Cmp_g (N : Nat) (v1 : (((Bool × ((List Int) × Unit)) × (Int × Unit)) × (((Bool × ((List Int) × Unit)) × (Int × Unit)) × Unit))) (v2 : (((Bool × ((List Int) × Unit)) × (Int × Unit)) × (((Bool × ((List Int) × Unit)) × (Int × Unit)) × Unit))) : Option (Int) :=
  ((spec_Dyadic_Mul N ((v1.1.1.1, v1.1.1.2.1, ()), v1.1.2.1, ()) ((v2.2.1.1.1, v2.2.1.1.2.1, ()), v2.2.1.2.1, ())).bind fun v3 => (spec_Dyadic_Mul N ((v2.1.1.1, v2.1.1.2.1, ()), v2.1.2.1, ()) ((v1.2.1.1.1, v1.2.1.1.2.1, ()), v1.2.1.2.1, ())).bind fun v4 => (spec_Dyadic_Cmp N v3 v4).bind fun v5 => (some v5))
def spec_Ratio_Cmp (N : Nat) (v1 : (((Bool × ((List Int) × Unit)) × (Int × Unit)) × (((Bool × ((List Int) × Unit)) × (Int × Unit)) × Unit))) (v2 : (((Bool × ((List Int) × Unit)) × (Int × Unit)) × (((Bool × ((List Int) × Unit)) × (Int × Unit)) × Unit))) : Option (Int) :=
  spec_Ratio_Cmp_g N v1 v2
set_option maxRecDepth 100000
theorem spec_Ratio_Cmp_t (N : Nat) (v1 : (((Bool × ((List Int) × Unit)) × (Int × Unit)) × (((Bool × ((List Int) × Unit)) × (Int × Unit)) × Unit))) (v2 : (((Bool × ((List Int) × Unit)) × (Int × Unit)) × (((Bool × ((List Int) × Unit)) × (Int × Unit)) × Unit))) : evF (spec_Ratio_Cmp_E N) [] Try.f86 [.k (.pair (.pair (.pair .bool (.pair (.list (.int .u32)) .unit)) (.pair (.int .i64) .unit)) (.pair (.pair (.pair .bool (.pair (.list (.int .u32)) .unit)) (.pair (.int .i64) .unit)) .unit)), .k (.pair (.pair (.pair .bool (.pair (.list (.int .u32)) .unit)) (.pair (.int .i64) .unit)) (.pair (.pair (.pair .bool (.pair (.list (.int .u32)) .unit)) (.pair (.int .i64) .unit)) .unit))] [(.int .i64)] (v1, v2, ()) = spec_Ratio_Cmp N v1 v2 := by
  exact (show evF (spec_Ratio_Cmp_E N) [] Try.f86 [.k (.pair (.pair (.pair .bool (.pair (.list (.int .u32)) .unit)) (.pair (.int .i64) .unit)) (.pair (.pair (.pair .bool (.pair (.list (.int .u32)) .unit)) (.pair (.int .i64) .unit)) .unit)), .k (.pair (.pair (.pair .bool (.pair (.list (.int .u32)) .unit)) (.pair (.int .i64) .unit)) (.pair (.pair (.pair .bool (.pair (.list (.int .u32)) .unit)) (.pair (.int .i64) .unit)) .unit))] [(.int .i64)] (v1, v2, ()) = spec_Ratio_Cmp_g N v1 v2 from by kernel_rfl).trans (by rfl)
noncomputable def spec_Ratio_Cmp_con (N : Nat) : Con := ⟨86, [.k (.pair (.pair (.pair .bool (.pair (.list (.int .u32)) .unit)) (.pair (.int .i64) .unit)) (.pair (.pair (.pair .bool (.pair (.list (.int .u32)) .unit)) (.pair (.int .i64) .unit)) .unit)), .k (.pair (.pair (.pair .bool (.pair (.list (.int .u32)) .unit)) (.pair (.int .i64) .unit)) (.pair (.pair (.pair .bool (.pair (.list (.int .u32)) .unit)) (.pair (.int .i64) .unit)) .unit))], [(.int .i64)], fun x => spec_Ratio_Cmp N x.1 x.2.1⟩
theorem spec_Ratio_Cmp_s (N : Nat) : (spec_Ratio_Cmp_con N).Sound Try.prog :=
  Con.sound_of (c := spec_Ratio_Cmp_con N) (E := (spec_Ratio_Cmp_E N)) (idle := []) Try.func86 (by kernel_rfl) (by kernel_rfl) ⟨(allCons (spec_Dyadic_Mul_s N) (allCons (spec_Dyadic_Cmp_s N) allNil)), allNil⟩ allNil (fun x y h => (spec_Ratio_Cmp_t N x.1 x.2.1).trans h)
/-- pub-orthodrome/spec.LeastRatio -/
noncomputable def spec_LeastRatio_E (N : Nat) : Env := ⟨Try.prog, N, [spec_Ratio_Cmp_con N], [(0, ⟨[], [], [0], [], none⟩), (1, ⟨[], [], [0, 2], [2], none⟩), (2, ⟨[], [], [0, 2, 3], [2, 3], none⟩), (3, ⟨[], [], [2, 3, 9, 10, 11], [2, 3], none⟩), (4, ⟨[], [], [2, 3, 9, 10, 11], [2, 3], none⟩), (5, ⟨[], [], [2, 3, 5, 9, 10, 11], [2, 3, 5], none⟩), (6, ⟨[], [], [2, 3, 5, 9, 10, 11, 18], [2, 3, 5], none⟩), (7, ⟨[], [], [2, 3, 9, 10, 11], [2, 3], some N⟩), (8, ⟨[], [], [2, 3], [2, 3], none⟩)], kdL [], []⟩
def spec_LeastRatio_g1 (N : Nat) (v1 : (List (((Bool × ((List Int) × Unit)) × (Int × Unit)) × (((Bool × ((List Int) × Unit)) × (Int × Unit)) × Unit)))) (v11 : Int) (r0 : Int → Bool → (List Int) → Int → Bool → (List Int) → Int → Option ((((Bool × ((List Int) × Unit)) × (Int × Unit)) × (((Bool × ((List Int) × Unit)) × (Int × Unit)) × Unit)))) (v20 : Bool) (v21 : (List Int)) (v22 : Int) (v23 : Bool) (v24 : (List Int)) (v25 : Int) : Option ((((Bool × ((List Int) × Unit)) × (Int × Unit)) × (((Bool × ((List Int) × Unit)) × (Int × Unit)) × Unit))) :=
  (r0 (IntKind.i64.wrap (v11 + 1)) v20 v21 v22 v23 v24 v25)
def spec_LeastRatio_j1 (N : Nat) (r0 : Int → Bool → (List Int) → Int → Bool → (List Int) → Int → Option ((((Bool × ((List Int) × Unit)) × (Int × Unit)) × (((Bool × ((List Int) × Unit)) × (Int × Unit)) × Unit)))) (v1 : (List (((Bool × ((List Int) × Unit)) × (Int × Unit)) × (((Bool × ((List Int) × Unit)) × (Int × Unit)) × Unit)))) (v11 : Int) (v20 : Bool) (v21 : (List Int)) (v22 : Int) (v23 : Bool) (v24 : (List Int)) (v25 : Int) : Option ((((Bool × ((List Int) × Unit)) × (Int × Unit)) × (((Bool × ((List Int) × Unit)) × (Int × Unit)) × Unit))) :=
  gate N (spec_LeastRatio_g1 N v1 v11 r0 v20 v21 v22 v23 v24 v25)
def spec_LeastRatio_g0 (N : Nat) (v1 : (List (((Bool × ((List Int) × Unit)) × (Int × Unit)) × (((Bool × ((List Int) × Unit)) × (Int × Unit)) × Unit)))) (c1 : Int → Bool → (List Int) → Int → Bool → (List Int) → Int → Option ((((Bool × ((List Int) × Unit)) × (Int × Unit)) × (((Bool × ((List Int) × Unit)) × (Int × Unit)) × Unit)))) (r0 : Int → Bool → (List Int) → Int → Bool → (List Int) → Int → Option ((((Bool × ((List Int) × Unit)) × (Int × Unit)) × (((Bool × ((List Int) × Unit)) × (Int × Unit)) × Unit)))) (v11 : Int) (v12 : Bool) (v13 : (List Int)) (v14 : Int) (v15 : Bool) (v16 : (List Int)) (v17 : Int) : Option ((((Bool × ((List Int) × Unit)) × (Int × Unit)) × (((Bool × ((List Int) × Unit)) × (Int × Unit)) × Unit))) :=
  (bif (decide ((v11 : Int) < (v1.length : Int))) then ((nth v1 v11).bind fun v18 => ((spec_Ratio_Cmp N (((v18.1.1.1, v18.1.1.2.1, ()), v18.1.2.1, ()), ((v18.2.1.1.1, v18.2.1.1.2.1, ()), v18.2.1.2.1, ()), ()) (((v12, v13, ()), v14, ()), ((v15, v16, ()), v17, ()), ())).bind fun v19 => (bif (decide ((v19 : Int) < 0)) then (c1 v11 v18.1.1.1 v18.1.1.2.1 v18.1.2.1 v18.2.1.1.1 v18.2.1.1.2.1 v18.2.1.2.1) else (c1 v11 v12 v13 v14 v15 v16 v17)))) else (some (((v12, v13, ()), v14, ()), ((v15, v16, ()), v17, ()), ())))
def spec_LeastRatio_l0 (N : Nat) : Nat → (List (((Bool × ((List Int) × Unit)) × (Int × Unit)) × (((Bool × ((List Int) × Unit)) × (Int × Unit)) × Unit))) → Int → Bool → (List Int) → Int → Bool → (List Int) → Int → Option ((((Bool × ((List Int) × Unit)) × (Int × Unit)) × (((Bool × ((List Int) × Unit)) × (Int × Unit)) × Unit)))
  | 0, _, _, _, _, _, _, _, _ => none
  | n + 1, v1, v11, v12, v13, v14, v15, v16, v17 => spec_LeastRatio_g0 N v1 (spec_LeastRatio_j1 N (spec_LeastRatio_l0 N n v1) v1) (spec_LeastRatio_l0 N n v1) v11 v12 v13 v14 v15 v16 v17
def spec_LeastRatio_g (N : Nat) (v1 : (List (((Bool × ((List Int) × Unit)) × (Int × Unit)) × (((Bool × ((List Int) × Unit)) × (Int × Unit)) × Unit)))) (c0 : (List (((Bool × ((List Int) × Unit)) × (Int × Unit)) × (((Bool × ((List Int) × Unit)) × (Int × Unit)) × Unit))) → Int → Bool → (List Int) → Int → Bool → (List Int) → Int → Option ((((Bool × ((List Int) × Unit)) × (Int × Unit)) × (((Bool × ((List Int) × Unit)) × (Int × Unit)) × Unit)))) : Option ((((Bool × ((List Int) × Unit)) × (Int × Unit)) × (((Bool × ((List Int) × Unit)) × (Int × Unit)) × Unit))) :=
  ((nth v1 0).bind fun v2 => ((c0 v1 0 v2.1.1.1 v2.1.1.2.1 v2.1.2.1 v2.2.1.1.1 v2.2.1.1.2.1 v2.2.1.2.1)))
def spec_LeastRatio (N : Nat) (v1 : (List (((Bool × ((List Int) × Unit)) × (Int × Unit)) × (((Bool × ((List Int) × Unit)) × (Int × Unit)) × Unit)))) : Option ((((Bool × ((List Int) × Unit)) × (Int × Unit)) × (((Bool × ((List Int) × Unit)) × (Int × Unit)) × Unit))) :=
  spec_LeastRatio_g N v1 (spec_LeastRatio_l0 N N)
set_option maxRecDepth 100000
noncomputable def spec_LeastRatio_e1 (N : Nat) (m0 : Nat) (v1 : (List (((Bool × ((List Int) × Unit)) × (Int × Unit)) × (((Bool × ((List Int) × Unit)) × (Int × Unit)) × Unit)))) (v11 : Int) (v20 : Bool) (v21 : (List Int)) (v22 : Int) (v23 : Bool) (v24 : (List Int)) (v25 : Int) : Option (HR [(.pair (.pair (.pair .bool (.pair (.list (.int .u32)) .unit)) (.pair (.int .i64) .unit)) (.pair (.pair (.pair .bool (.pair (.list (.int .u32)) .unit)) (.pair (.int .i64) .unit)) .unit))]) :=
  gate N (evC (spec_LeastRatio_E N) (codeAt (bodyOf Try.f44) [1, 1, 0, 1, 0, 0, 1, 1, 1]) ⟨[(2, .ref 2 0), (3, .ref 3 0), (9, .pv (.list (.pair (.pair (.pair .bool (.pair (.list (.int .u32)) .unit)) (.pair (.int .i64) .unit)) (.pair (.pair (.pair .bool (.pair (.list (.int .u32)) .unit)) (.pair (.int .i64) .unit)) .unit))) v1), (10, .pv (.int .i64) (v1.length : Int)), (11, .pv (.int .i64) v11)], [(2, .box [.pv .bool false, .nils, .pv (.int .i64) 0, .pv .bool false, .nils, .pv (.int .i64) 0]), (3, .box [.pv .bool v20, .pv (.list (.int .u32)) v21, .pv (.int .i64) v22, .pv .bool v23, .pv (.list (.int .u32)) v24, .pv (.int .i64) v25])], []⟩ (kSeq (advOf (spec_LeastRatio_E N) (codeAt (bodyOf Try.f44) [1, 1, 0, 1, 0, 0])) (fun st K => loopN (advOf (spec_LeastRatio_E N) (codeAt (bodyOf Try.f44) [1, 1, 0, 1, 0, 0])) (evC (spec_LeastRatio_E N) (codeAt (bodyOf Try.f44) [1, 1, 0, 1, 0, 0])) m0 st K) (kBlock 0 (kSeq (advOf (spec_LeastRatio_E N) (codeAt (bodyOf Try.f44) [1, 1, 1])) (evC (spec_LeastRatio_E N) (codeAt (bodyOf Try.f44) [1, 1, 1])) (kEnd (spec_LeastRatio_E N) [] Try.f44.results.toList [(.pair (.pair (.pair .bool (.pair (.list (.int .u32)) .unit)) (.pair (.int .i64) .unit)) (.pair (.pair (.pair .bool (.pair (.list (.int .u32)) .unit)) (.pair (.int .i64) .unit)) .unit))])))))
noncomputable def spec_LeastRatio_e0 (N : Nat) (n : Nat) (v1 : (List (((Bool × ((List Int) × Unit)) × (Int × Unit)) × (((Bool × ((List Int) × Unit)) × (Int × Unit)) × Unit)))) (v11 : Int) (v12 : Bool) (v13 : (List Int)) (v14 : Int) (v15 : Bool) (v16 : (List Int)) (v17 : Int) : Option (HR [(.pair (.pair (.pair .bool (.pair (.list (.int .u32)) .unit)) (.pair (.int .i64) .unit)) (.pair (.pair (.pair .bool (.pair (.list (.int .u32)) .unit)) (.pair (.int .i64) .unit)) .unit))]) :=
  loopN (advOf (spec_LeastRatio_E N) (codeAt (bodyOf Try.f44) [1, 1, 0, 1, 0, 0])) (evC (spec_LeastRatio_E N) (codeAt (bodyOf Try.f44) [1, 1, 0, 1, 0, 0])) n ⟨[(2, .ref 2 0), (3, .ref 3 0), (9, .pv (.list (.pair (.pair (.pair .bool (.pair (.list (.int .u32)) .unit)) (.pair (.int .i64) .unit)) (.pair (.pair (.pair .bool (.pair (.list (.int .u32)) .unit)) (.pair (.int .i64) .unit)) .unit))) v1), (10, .pv (.int .i64) (v1.length : Int)), (11, .pv (.int .i64) v11)], [(2, .box [.pv .bool false, .nils, .pv (.int .i64) 0, .pv .bool false, .nils, .pv (.int .i64) 0]), (3, .box [.pv .bool v12, .pv (.list (.int .u32)) v13, .pv (.int .i64) v14, .pv .bool v15, .pv (.list (.int .u32)) v16, .pv (.int .i64) v17])], []⟩ (kBlock 0 (kSeq (advOf (spec_LeastRatio_E N) (codeAt (bodyOf Try.f44) [1, 1, 1])) (evC (spec_LeastRatio_E N) (codeAt (bodyOf Try.f44) [1, 1, 1])) (kEnd (spec_LeastRatio_E N) [] Try.f44.results.toList [(.pair (.pair (.pair .bool (.pair (.list (.int .u32)) .unit)) (.pair (.int .i64) .unit)) (.pair (.pair (.pair .bool (.pair (.list (.int .u32)) .unit)) (.pair (.int .i64) .unit)) .unit))])))
theorem spec_LeastRatio_t1 (N : Nat) (m0 : Nat) (v1 : (List (((Bool × ((List Int) × Unit)) × (Int × Unit)) × (((Bool × ((List Int) × Unit)) × (Int × Unit)) × Unit)))) (v11 : Int) (v20 : Bool) (v21 : (List Int)) (v22 : Int) (v23 : Bool) (v24 : (List Int)) (v25 : Int) : spec_LeastRatio_e1 N m0 v1 v11 v20 v21 v22 v23 v24 v25 = spec_LeastRatio_j1 N (spec_LeastRatio_e0 N m0 v1) v1 v11 v20 v21 v22 v23 v24 v25 := by
  exact (congrArg (gate N) (show evC (spec_LeastRatio_E N) (codeAt (bodyOf Try.f44) [1, 1, 0, 1, 0, 0, 1, 1, 1]) ⟨[(2, .ref 2 0), (3, .ref 3 0), (9, .pv (.list (.pair (.pair (.pair .bool (.pair (.list (.int .u32)) .unit)) (.pair (.int .i64) .unit)) (.pair (.pair (.pair .bool (.pair (.list (.int .u32)) .unit)) (.pair (.int .i64) .unit)) .unit))) v1), (10, .pv (.int .i64) (v1.length : Int)), (11, .pv (.int .i64) v11)], [(2, .box [.pv .bool false, .nils, .pv (.int .i64) 0, .pv .bool false, .nils, .pv (.int .i64) 0]), (3, .box [.pv .bool v20, .pv (.list (.int .u32)) v21, .pv (.int .i64) v22, .pv .bool v23, .pv (.list (.int .u32)) v24, .pv (.int .i64) v25])], []⟩ (kSeq (advOf (spec_LeastRatio_E N) (codeAt (bodyOf Try.f44) [1, 1, 0, 1, 0, 0])) (fun st K => loopN (advOf (spec_LeastRatio_E N) (codeAt (bodyOf Try.f44) [1, 1, 0, 1, 0, 0])) (evC (spec_LeastRatio_E N) (codeAt (bodyOf Try.f44) [1, 1, 0, 1, 0, 0])) m0 st K) (kBlock 0 (kSeq (advOf (spec_LeastRatio_E N) (codeAt (bodyOf Try.f44) [1, 1, 1])) (evC (spec_LeastRatio_E N) (codeAt (bodyOf Try.f44) [1, 1, 1])) (kEnd (spec_LeastRatio_E N) [] Try.f44.results.toList [(.pair (.pair (.pair .bool (.pair (.list (.int .u32)) .unit)) (.pair (.int .i64) .unit)) (.pair (.pair (.pair .bool (.pair (.list (.int .u32)) .unit)) (.pair (.int .i64) .unit)) .unit))])))) = spec_LeastRatio_g1 N v1 v11 (spec_LeastRatio_e0 N m0 v1) v20 v21 v22 v23 v24 v25 from by kernel_rfl)).trans (by rfl)
theorem spec_LeastRatio_t0 (N : Nat) : ∀ (n : Nat) (v1 : (List (((Bool × ((List Int) × Unit)) × (Int × Unit)) × (((Bool × ((List Int) × Unit)) × (Int × Unit)) × Unit)))) (v11 : Int) (v12 : Bool) (v13 : (List Int)) (v14 : Int) (v15 : Bool) (v16 : (List Int)) (v17 : Int), spec_LeastRatio_e0 N n v1 v11 v12 v13 v14 v15 v16 v17 = spec_LeastRatio_l0 N n v1 v11 v12 v13 v14 v15 v16 v17
  | 0, _, _, _, _, _, _, _, _ => rfl
  | n + 1, v1, v11, v12, v13, v14, v15, v16, v17 => by
    have h1 : (spec_LeastRatio_e1 N n v1) = (spec_LeastRatio_j1 N (spec_LeastRatio_e0 N n v1) v1) := by funext v11 v20 v21 v22 v23 v24 v25; exact spec_LeastRatio_t1 N n v1 v11 v20 v21 v22 v23 v24 v25
    have h : spec_LeastRatio_e0 N n v1 = spec_LeastRatio_l0 N n v1 := by funext v11 v12 v13 v14 v15 v16 v17; exact spec_LeastRatio_t0 N n v1 v11 v12 v13 v14 v15 v16 v17
    exact (show spec_LeastRatio_e0 N (n + 1) v1 v11 v12 v13 v14 v15 v16 v17 = spec_LeastRatio_g0 N v1 (spec_LeastRatio_e1 N n v1) (spec_LeastRatio_e0 N n v1) v11 v12 v13 v14 v15 v16 v17 from by kernel_rfl).trans (by rw [h1, h]; rfl)
theorem spec_LeastRatio_t (N : Nat) (v1 : (List (((Bool × ((List Int) × Unit)) × (Int × Unit)) × (((Bool × ((List Int) × Unit)) × (Int × Unit)) × Unit)))) : evF (spec_LeastRatio_E N) [] Try.f44 [.k (.list (.pair (.pair (.pair .bool (.pair (.list (.int .u32)) .unit)) (.pair (.int .i64) .unit)) (.pair (.pair (.pair .bool (.pair (.list (.int .u32)) .unit)) (.pair (.int .i64) .unit)) .unit)))] [(.pair (.pair (.pair .bool (.pair (.list (.int .u32)) .unit)) (.pair (.int .i64) .unit)) (.pair (.pair (.pair .bool (.pair (.list (.int .u32)) .unit)) (.pair (.int .i64) .unit)) .unit))] (v1, ()) = spec_LeastRatio N v1 := by
  have h0 : (spec_LeastRatio_e0 N N) = (spec_LeastRatio_l0 N N) := by funext v1 v11 v12 v13 v14 v15 v16 v17; exact spec_LeastRatio_t0 N N v1 v11 v12 v13 v14 v15 v16 v17
  exact (show evF (spec_LeastRatio_E N) [] Try.f44 [.k (.list (.pair (.pair (.pair .bool (.pair (.list (.int .u32)) .unit)) (.pair (.int .i64) .unit)) (.pair (.pair (.pair .bool (.pair (.list (.int .u32)) .unit)) (.pair (.int .i64) .unit)) .unit)))] [(.pair (.pair (.pair .bool (.pair (.list (.int .u32)) .unit)) (.pair (.int .i64) .unit)) (.pair (.pair (.pair .bool (.pair (.list (.int .u32)) .unit)) (.pair (.int .i64) .unit)) .unit))] (v1, ()) = spec_LeastRatio_g N v1 (spec_LeastRatio_e0 N N) from by kernel_rfl).trans (by rw [h0]; rfl)
noncomputable def spec_LeastRatio_con (N : Nat) : Con := ⟨44, [.k (.list (.pair (.pair (.pair .bool (.pair (.list (.int .u32)) .unit)) (.pair (.int .i64) .unit)) (.pair (.pair (.pair .bool (.pair (.list (.int .u32)) .unit)) (.pair (.int .i64) .unit)) .unit)))], [(.pair (.pair (.pair .bool (.pair (.list (.int .u32)) .unit)) (.pair (.int .i64) .unit)) (.pair (.pair (.pair .bool (.pair (.list (.int .u32)) .unit)) (.pair (.int .i64) .unit)) .unit))], fun x => spec_LeastRatio N x.1⟩
theorem spec_LeastRatio_s (N : Nat) : (spec_LeastRatio_con N).Sound Try.prog :=
  Con.sound_of (c := spec_LeastRatio_con N) (E := (spec_LeastRatio_E N)) (idle := []) Try.func44 (by kernel_rfl) (by kernel_rfl) ⟨(allCons (spec_Ratio_Cmp_s N) allNil), allNil⟩ allNil (fun x y h => (spec_LeastRatio_t N x.1).trans h)
/-- (pub-orthodrome/pub/gogeom.Layout).Stride -/
noncomputable def gogeom_Layout_Stride_E (N : Nat) : Env := ⟨Try.prog, N, [], [(0, ⟨[], [], [0], [], none⟩), (1, ⟨[], [], [0], [], none⟩), (3, ⟨[], [], [0, 3], [], none⟩), (4, ⟨[], [], [0, 3, 5], [], none⟩), (6, ⟨[], [], [0, 3, 7], [], none⟩), (8, ⟨[], [], [0, 3, 9], [], none⟩), (10, ⟨[], [], [0, 3, 11], [], none⟩), (12, ⟨[], [], [0, 13], [], none⟩)], kdL [], []⟩
def gogeom_Layout_Stride_g (N : Nat) (v1 : Int) : Option (Int) :=
  (bif (v1 == 0) then (some 0) else (bif (v1 == 1) then (some 2) else (bif (v1 == 2) then (some 3) else (bif (v1 == 3) then (some 3) else (bif (v1 == 4) then (some 4) else (some v1))))))
def gogeom_Layout_Stride (N : Nat) (v1 : Int) : Option (Int) :=
  gogeom_Layout_Stride_g N v1
set_option maxRecDepth 100000
theorem gogeom_Layout_Stride_t (N : Nat) (v1 : Int) : evF (gogeom_Layout_Stride_E N) [] Try.f112 [.k (.int .i64)] [(.int .i64)] (v1, ()) = gogeom_Layout_Stride N v1 := by
  exact (show evF (gogeom_Layout_Stride_E N) [] Try.f112 [.k (.int .i64)] [(.int .i64)] (v1, ()) = gogeom_Layout_Stride_g N v1 from by kernel_rfl).trans (by rfl)
noncomputable def gogeom_Layout_Stride_con (N : Nat) : Con := ⟨112, [.k (.int .i64)], [(.int .i64)], fun x => gogeom_Layout_Stride N x.1⟩
theorem gogeom_Layout_Stride_s (N : Nat) : (gogeom_Layout_Stride_con N).Sound Try.prog :=
  Con.sound_of (c := gogeom_Layout_Stride_con N) (E := (gogeom_Layout_Stride_E N)) (idle := []) Try.func112 (by kernel_rfl) (by kernel_rfl) ⟨allNil, allNil⟩ allNil (fun x y h => (gogeom_Layout_Stride_t N x.1).trans h)
/-- pub-orthodrome/pub/gogeom/xy.DistanceFromPointToLineString -/
noncomputable def xy_DistanceFromPointToLineString_E (N : Nat) : Env := ⟨Try.prog, N, [inner_Distance2D_con N, gogeom_Layout_Stride_con N, xy_DistanceFromPointToLine_con N], [(0, ⟨[], [], [0, 1, 2], [], none⟩), (1, ⟨[], [], [0, 1, 2], [], none⟩), (2, ⟨[], [], [0, 1, 2, 16], [], none⟩), (3, ⟨[], [], [0, 1, 2], [], none⟩), (4, ⟨[], [], [0, 1, 2, 7], [], none⟩), (5, ⟨[], [], [0, 1, 2, 8], [], none⟩), (6, ⟨[], [], [1, 2, 8, 9], [], none⟩), (7, ⟨[], [], [1, 2, 8, 9, 10], [], none⟩), (8, ⟨[], [], [1, 2, 8, 9, 10], [], some N⟩), (9, ⟨[], [], [1, 2, 8, 9, 10], [], none⟩), (10, ⟨[], [], [1, 2, 8, 9, 10, 11], [], none⟩), (11, ⟨[], [], [1, 2, 8, 9, 10, 11, 12], [], none⟩), (12, ⟨[], [], [1, 2, 8, 9, 10, 13], [], none⟩), (13, ⟨[], [], [1, 2, 8, 9, 10, 13, 54], [], none⟩), (14, ⟨[], [], [8], [], none⟩)], kdL [], []⟩
def xy_DistanceFromPointToLineString_g1 (N : Nat) (v2 : (List Nat)) (v3 : (List Nat)) (v6 : Int) (v12 : Int) (r0 : Nat → Int → Option (Nat)) (v16 : Nat) : Option (Nat) :=
  (r0 v16 (IntKind.i64.wrap (v12 + v6)))
def xy_DistanceFromPointToLineString_j1 (N : Nat) (r0 : Nat → Int → Option (Nat)) (v2 : (List Nat)) (v3 : (List Nat)) (v6 : Int) (v12 : Int) (v16 : Nat) : Option (Nat) :=
  gate N (xy_DistanceFromPointToLineString_g1 N v2 v3 v6 v12 r0 v16)
def xy_DistanceFromPointToLineString_g0 (N : Nat) (v2 : (List Nat)) (v3 : (List Nat)) (v6 : Int) (c1 : Int → Nat → Option (Nat)) (r0 : Nat → Int → Option (Nat)) (v11 : Nat) (v12 : Int) : Option (Nat) :=
  (bif (decide ((v12 : Int) < (IntKind.i64.wrap ((v3.length : Int) - v6)))) then ((chk2 v12 (IntKind.i64.wrap (v12 + 2)) v3.length).bind fun v13 => ((chk2 (IntKind.i64.wrap (v12 + v6)) (IntKind.i64.wrap ((IntKind.i64.wrap (v12 + v6)) + 2)) v3.length).bind fun v14 => ((xy_DistanceFromPointToLine N v2 ((v3.drop v13.1).take (v13.2 - v13.1)) ((v3.drop v14.1).take (v14.2 - v14.1))).bind fun v15 => (bif (flt v15 v11) then (c1 v12 v15) else (c1 v12 v11))))) else (some v11))
def xy_DistanceFromPointToLineString_l0 (N : Nat) : Nat → (List Nat) → (List Nat) → Int → Nat → Int → Option (Nat)
  | 0, _, _, _, _, _ => none
  | n + 1, v2, v3, v6, v11, v12 => xy_DistanceFromPointToLineString_g0 N v2 v3 v6 (xy_DistanceFromPointToLineString_j1 N (xy_DistanceFromPointToLineString_l0 N n v2 v3 v6) v2 v3 v6) (xy_DistanceFromPointToLineString_l0 N n v2 v3 v6) v11 v12
def xy_DistanceFromPointToLineString_g (N : Nat) (v1 : Int) (v2 : (List Nat)) (v3 : (List Nat)) (c0 : (List Nat) → (List Nat) → Int → Nat → Int → Option (Nat)) : Option (Nat) :=
  (bif (decide (((v3.length : Int) : Int) < 2)) then none else ((chk2 0 2 v3.length).bind fun v4 => ((inner_Distance2D N v2 ((v3.drop v4.1).take (v4.2 - v4.1))).bind fun v5 => ((gogeom_Layout_Stride N v1).bind fun v6 => ((c0 v2 v3 v6 v5 0))))))
def xy_DistanceFromPointToLineString (N : Nat) (v1 : Int) (v2 : (List Nat)) (v3 : (List Nat)) : Option (Nat) :=
  xy_DistanceFromPointToLineString_g N v1 v2 v3 (xy_DistanceFromPointToLineString_l0 N N)
set_option maxRecDepth 100000
noncomputable def xy_DistanceFromPointToLineString_e1 (N : Nat) (m0 : Nat) (v2 : (List Nat)) (v3 : (List Nat)) (v6 : Int) (v12 : Int) (v16 : Nat) : Option (HR [.float]) :=
  gate N (evC (xy_DistanceFromPointToLineString_E N) (codeAt (bodyOf Try.f88) [1, 1, 1, 1, 1, 0, 1, 0, 0, 1, 1]) ⟨[(1, .pv (.list .float) v2), (2, .pv (.list .float) v3), (8, .pv .float v16), (9, .pv (.int .i64) v6), (10, .pv (.int .i64) v12)], [], []⟩ (kSeq (advOf (xy_DistanceFromPointToLineString_E N) (codeAt (bodyOf Try.f88) [1, 1, 1, 1, 1, 0, 1, 0, 0])) (fun st K => loopN (advOf (xy_DistanceFromPointToLineString_E N) (codeAt (bodyOf Try.f88) [1, 1, 1, 1, 1, 0, 1, 0, 0])) (evC (xy_DistanceFromPointToLineString_E N) (codeAt (bodyOf Try.f88) [1, 1, 1, 1, 1, 0, 1, 0, 0])) m0 st K) (kBlock 0 (kSeq (advOf (xy_DistanceFromPointToLineString_E N) (codeAt (bodyOf Try.f88) [1, 1, 1, 1, 1, 1])) (evC (xy_DistanceFromPointToLineString_E N) (codeAt (bodyOf Try.f88) [1, 1, 1, 1, 1, 1])) (kEnd (xy_DistanceFromPointToLineString_E N) [] Try.f88.results.toList [.float])))))
noncomputable def xy_DistanceFromPointToLineString_e0 (N : Nat) (n : Nat) (v2 : (List Nat)) (v3 : (List Nat)) (v6 : Int) (v11 : Nat) (v12 : Int) : Option (HR [.float]) :=
  loopN (advOf (xy_DistanceFromPointToLineString_E N) (codeAt (bodyOf Try.f88) [1, 1, 1, 1, 1, 0, 1, 0, 0])) (evC (xy_DistanceFromPointToLineString_E N) (codeAt (bodyOf Try.f88) [1, 1, 1, 1, 1, 0, 1, 0, 0])) n ⟨[(1, .pv (.list .float) v2), (2, .pv (.list .float) v3), (8, .pv .float v11), (9, .pv (.int .i64) v6), (10, .pv (.int .i64) v12)], [], []⟩ (kBlock 0 (kSeq (advOf (xy_DistanceFromPointToLineString_E N) (codeAt (bodyOf Try.f88) [1, 1, 1, 1, 1, 1])) (evC (xy_DistanceFromPointToLineString_E N) (codeAt (bodyOf Try.f88) [1, 1, 1, 1, 1, 1])) (kEnd (xy_DistanceFromPointToLineString_E N) [] Try.f88.results.toList [.float])))
theorem xy_DistanceFromPointToLineString_t1 (N : Nat) (m0 : Nat) (v2 : (List Nat)) (v3 : (List Nat)) (v6 : Int) (v12 : Int) (v16 : Nat) : xy_DistanceFromPointToLineString_e1 N m0 v2 v3 v6 v12 v16 = xy_DistanceFromPointToLineString_j1 N (xy_DistanceFromPointToLineString_e0 N m0 v2 v3 v6) v2 v3 v6 v12 v16 := by
  exact (congrArg (gate N) (show evC (xy_DistanceFromPointToLineString_E N) (codeAt (bodyOf Try.f88) [1, 1, 1, 1, 1, 0, 1, 0, 0, 1, 1]) ⟨[(1, .pv (.list .float) v2), (2, .pv (.list .float) v3), (8, .pv .float v16), (9, .pv (.int .i64) v6), (10, .pv (.int .i64) v12)], [], []⟩ (kSeq (advOf (xy_DistanceFromPointToLineString_E N) (codeAt (bodyOf Try.f88) [1, 1, 1, 1, 1, 0, 1, 0, 0])) (fun st K => loopN (advOf (xy_DistanceFromPointToLineString_E N) (codeAt (bodyOf Try.f88) [1, 1, 1, 1, 1, 0, 1, 0, 0])) (evC (xy_DistanceFromPointToLineString_E N) (codeAt (bodyOf Try.f88) [1, 1, 1, 1, 1, 0, 1, 0, 0])) m0 st K) (kBlock 0 (kSeq (advOf (xy_DistanceFromPointToLineString_E N) (codeAt (bodyOf Try.f88) [1, 1, 1, 1, 1, 1])) (evC (xy_DistanceFromPointToLineString_E N) (codeAt (bodyOf Try.f88) [1, 1, 1, 1, 1, 1])) (kEnd (xy_DistanceFromPointToLineString_E N) [] Try.f88.results.toList [.float])))) = xy_DistanceFromPointToLineString_g1 N v2 v3 v6 v12 (xy_DistanceFromPointToLineString_e0 N m0 v2 v3 v6) v16 from by kernel_rfl)).trans (by rfl)
theorem xy_DistanceFromPointToLineString_t0 (N : Nat) : ∀ (n : Nat) (v2 : (List Nat)) (v3 : (List Nat)) (v6 : Int) (v11 : Nat) (v12 : Int), xy_DistanceFromPointToLineString_e0 N n v2 v3 v6 v11 v12 = xy_DistanceFromPointToLineString_l0 N n v2 v3 v6 v11 v12
  | 0, _, _, _, _, _ => rfl
  | n + 1, v2, v3, v6, v11, v12 => by
    have h1 : (xy_DistanceFromPointToLineString_e1 N n v2 v3 v6) = (xy_DistanceFromPointToLineString_j1 N (xy_DistanceFromPointToLineString_e0 N n v2 v3 v6) v2 v3 v6) := by funext v12 v16; exact xy_DistanceFromPointToLineString_t1 N n v2 v3 v6 v12 v16
    have h : xy_DistanceFromPointToLineString_e0 N n v2 v3 v6 = xy_DistanceFromPointToLineString_l0 N n v2 v3 v6 := by funext v11 v12; exact xy_DistanceFromPointToLineString_t0 N n v2 v3 v6 v11 v12
    exact (show xy_DistanceFromPointToLineString_e0 N (n + 1) v2 v3 v6 v11 v12 = xy_DistanceFromPointToLineString_g0 N v2 v3 v6 (xy_DistanceFromPointToLineString_e1 N n v2 v3 v6) (xy_DistanceFromPointToLineString_e0 N n v2 v3 v6) v11 v12 from by kernel_rfl).trans (by rw [h1, h]; rfl)
theorem xy_DistanceFromPointToLineString_t (N : Nat) (v1 : Int) (v2 : (List Nat)) (v3 : (List Nat)) : evF (xy_DistanceFromPointToLineString_E N) [] Try.f88 [.k (.int .i64), .k (.list .float), .k (.list .float)] [.float] (v1, v2, v3, ()) = xy_DistanceFromPointToLineString N v1 v2 v3 := by
  have h0 : (xy_DistanceFromPointToLineString_e0 N N) = (xy_DistanceFromPointToLineString_l0 N N) := by funext v2 v3 v6 v11 v12; exact xy_DistanceFromPointToLineString_t0 N N v2 v3 v6 v11 v12
  exact (show evF (xy_DistanceFromPointToLineString_E N) [] Try.f88 [.k (.int .i64), .k (.list .float), .k (.list .float)] [.float] (v1, v2, v3, ()) = xy_DistanceFromPointToLineString_g N v1 v2 v3 (xy_DistanceFromPointToLineString_e0 N N) from by kernel_rfl).trans (by rw [h0]; rfl)
noncomputable def xy_DistanceFromPointToLineString_con (N : Nat) : Con := ⟨88, [.k (.int .i64), .k (.list .float), .k (.list .float)], [.float], fun x => xy_DistanceFromPointToLineString N x.1 x.2.1 x.2.2.1⟩
theorem xy_DistanceFromPointToLineString_s (N : Nat) : (xy_DistanceFromPointToLineString_con N).Sound Try.prog :=
  Con.sound_of (c := xy_DistanceFromPointToLineString_con N) (E := (xy_DistanceFromPointToLineString_E N)) (idle := []) Try.func88 (by kernel_rfl) (by kernel_rfl) ⟨(allCons (inner_Distance2D_s N) (allCons (gogeom_Layout_Stride_s N) (allCons (xy_DistanceFromPointToLine_s N) allNil))), allNil⟩ allNil (fun x y h => (xy_DistanceFromPointToLineString_t N x.1 x.2.1 x.2.2.1).trans h)
/-- pub-orthodrome/impl.PointLinesDistance -/
noncomputable def impl_PointLinesDistance_E (N : Nat) : Env := ⟨Try.prog, N, [xy_DistanceFromPointToLineString_con N], [(0, ⟨[], [], [0, 1, 2], [], none⟩), (1, ⟨[], [], [0, 2, 4, 6, 7], [4, 6, 7], none⟩), (2, ⟨[], [], [0, 2, 4, 6, 7], [4, 6, 7], none⟩)], kdL [], [impl_coord_con N]⟩
def impl_PointLinesDistance_g (N : Nat) (v1 : Int) (v2 : (Nat × (Nat × Unit))) (v3 : (List Nat)) : Option (Nat × Bool) :=
  ((impl_coord N (v2.1, v2.2.1, ())).bind fun v4 => (xy_DistanceFromPointToLineString N v1 v4.1 v3).bind fun v5 => (some (v5, true)))
def impl_PointLinesDistance (N : Nat) (v1 : Int) (v2 : (Nat × (Nat × Unit))) (v3 : (List Nat)) : Option (Nat × Bool) :=
  impl_PointLinesDistance_g N v1 v2 v3
set_option maxRecDepth 100000
theorem impl_PointLinesDistance_t (N : Nat) (v1 : Int) (v2 : (Nat × (Nat × Unit))) (v3 : (List Nat)) : evF (impl_PointLinesDistance_E N) [87] Try.f45 [.k (.int .i64), .k (.pair .float (.pair .float .unit)), .k (.list .float)] [.float, .bool] (v1, v2, v3, ()) = impl_PointLinesDistance N v1 v2 v3 := by
  exact (show evF (impl_PointLinesDistance_E N) [87] Try.f45 [.k (.int .i64), .k (.pair .float (.pair .float .unit)), .k (.list .float)] [.float, .bool] (v1, v2, v3, ()) = impl_PointLinesDistance_g N v1 v2 v3 from by kernel_rfl).trans (by rfl)
noncomputable def impl_PointLinesDistance_con (N : Nat) : Con := ⟨45, [.k (.int .i64), .k (.pair .float (.pair .float .unit)), .k (.list .float)], [.float, .bool], fun x => impl_PointLinesDistance N x.1 x.2.1 x.2.2.1⟩
theorem impl_PointLinesDistance_s (N : Nat) : (impl_PointLinesDistance_con N).Sound Try.prog :=
  Con.sound_of (c := impl_PointLinesDistance_con N) (E := (impl_PointLinesDistance_E N)) (idle := [87]) Try.func45 (by kernel_rfl) (by kernel_rfl) ⟨(allCons (xy_DistanceFromPointToLineString_s N) allNil), (allCons (impl_coord_s N) allNil)⟩ (allCons (idle_of Try.func87 (by kernel_rfl)) allNil) (fun x y h => (impl_PointLinesDistance_t N x.1 x.2.1 x.2.2.1).trans h)
/-- pub-orthodrome/spec.Stride -/
noncomputable def spec_Stride_E (N : Nat) : Env := ⟨Try.prog, N, [], [(0, ⟨[], [], [0], [], none⟩), (1, ⟨[], [], [0], [], none⟩), (2, ⟨[], [], [0, 3], [], none⟩), (4, ⟨[], [], [0, 6], [], none⟩), (6, ⟨[], [], [0, 9], [], none⟩), (7, ⟨[], [], [0], [], none⟩)], kdL [], []⟩
def spec_Stride_g (N : Nat) (v1 : Int) : Option (Int) :=
  (bif (decide ((v1 : Int) < 1)) then (some 0) else (bif (v1 == 1) then (some 2) else (bif (v1 == 2) then (some 3) else (bif (v1 == 3) then (some 3) else (some v1)))))
def spec_Stride (N : Nat) (v1 : Int) : Option (Int) :=
  spec_Stride_g N v1
set_option maxRecDepth 100000
theorem spec_Stride_t (N : Nat) (v1 : Int) : evF (spec_Stride_E N) [] Try.f85 [.k (.int .i64)] [(.int .i64)] (v1, ()) = spec_Stride N v1 := by
  exact (show evF (spec_Stride_E N) [] Try.f85 [.k (.int .i64)] [(.int .i64)] (v1, ()) = spec_Stride_g N v1 from by kernel_rfl).trans (by rfl)
noncomputable def spec_Stride_con (N : Nat) : Con := ⟨85, [.k (.int .i64)], [(.int .i64)], fun x => spec_Stride N x.1⟩
theorem spec_Stride_s (N : Nat) : (spec_Stride_con N).Sound Try.prog :=
  Con.sound_of (c := spec_Stride_con N) (E := (spec_Stride_E N)) (idle := []) Try.func85 (by kernel_rfl) (by kernel_rfl) ⟨allNil, allNil⟩ allNil (fun x y h => (spec_Stride_t N x.1).trans h)
/-- pub-orthodrome/laws.flatTo -/
noncomputable def laws_flatTo_E (N : Nat) : Env := ⟨Try.prog, N, [spec_Stride_con N, laws_planeTo_con N], [(0, ⟨[], [], [0, 1, 2, 3], [], none⟩), (1, ⟨[], [], [0, 1, 2, 3, 8], [], none⟩), (2, ⟨[], [], [0, 1, 2, 3, 8, 17], [], none⟩), (3, ⟨[], [], [0, 1, 2, 3, 8], [], none⟩), (4, ⟨[], [], [1, 2, 3, 8, 10], [], none⟩), (5, ⟨[], [], [1, 2, 8, 10, 32], [], none⟩), (6, ⟨[], [], [1, 2, 8, 10], [], none⟩), (7, ⟨[(8, 24, (.pair .float (.pair .float .unit)), 90700)], [], [1, 2, 8, 10, 11], [90700], none⟩), (8, ⟨[], [], [1, 2, 8, 10, 11], [52], none⟩), (9, ⟨[], [], [1, 2, 8, 10, 11], [90700], none⟩), (10, ⟨[], [], [2, 8], [90700], none⟩)], kdL [(24, (.pair .float (.pair .float .unit)))], []⟩
def laws_flatTo_g0 (N : Nat) (v2 : (List Nat)) (v3 : Nat) (v5 : Int) (r0 : Int → (List (Nat × (Nat × Unit))) → Option (((List (Nat × (Nat × Unit))) × Bool × Unit))) (v8 : Int) (v9 : (List (Nat × (Nat × Unit)))) : Option (((List (Nat × (Nat × Unit))) × Bool × Unit)) :=
  (bif (decide ((v8 : Int) < (v2.length : Int))) then ((nth v2 v8).bind fun v10 => (nth v2 (IntKind.i64.wrap (v8 + 1))).bind fun v11 => (lim ((v9.length + ([(v10, v11, ())] : List (Nat × (Nat × Unit))).length) * 16)).bind fun _ => ((r0 (IntKind.i64.wrap (v8 + v5)) (v9 ++ ([(v10, v11, ())] : List (Nat × (Nat × Unit))))))) else ((laws_planeTo N v3 v9).bind fun v12 => (some (v9, v12, ()))))
def laws_flatTo_l0 (N : Nat) : Nat → (List Nat) → Nat → Int → Int → (List (Nat × (Nat × Unit))) → Option (((List (Nat × (Nat × Unit))) × Bool × Unit))
  | 0, _, _, _, _, _ => none
  | n + 1, v2, v3, v5, v8, v9 => laws_flatTo_g0 N v2 v3 v5 (laws_flatTo_l0 N n v2 v3 v5) v8 v9
def laws_flatTo_g (N : Nat) (v1 : Int) (v2 : (List Nat)) (v3 : Nat) (v4 : Int) (c0 : (List Nat) → Nat → Int → Int → (List (Nat × (Nat × Unit))) → Option (((List (Nat × (Nat × Unit))) × Bool × Unit))) : Option (((List (Nat × (Nat × Unit))) × Bool × Unit)) :=
  (bif (decide ((v1 : Int) < 1)) then (some (([] : List (Nat × (Nat × Unit))), false, ())) else (bif (decide ((v1 : Int) > 8)) then (some (([] : List (Nat × (Nat × Unit))), false, ())) else ((spec_Stride N v1).bind fun v5 => (if v5 = 0 then none else bif ((Int.tmod (v2.length : Int) v5) != 0) then (some (([] : List (Nat × (Nat × Unit))), false, ())) else (bif (decide (((v2.length : Int) : Int) > (IntKind.i64.wrap (v5 * v4)))) then (some (([] : List (Nat × (Nat × Unit))), false, ())) else ((c0 v2 v3 v5 0 ([] : List (Nat × (Nat × Unit))))))))))
def laws_flatTo (N : Nat) (v1 : Int) (v2 : (List Nat)) (v3 : Nat) (v4 : Int) : Option (((List (Nat × (Nat × Unit))) × Bool × Unit)) :=
  laws_flatTo_g N v1 v2 v3 v4 (laws_flatTo_l0 N N)
set_option maxRecDepth 100000
noncomputable def laws_flatTo_e0 (N : Nat) (n : Nat) (v2 : (List Nat)) (v3 : Nat) (v5 : Int) (v8 : Int) (v9 : (List (Nat × (Nat × Unit)))) : Option (AltD [⟨[.row 24 (.pair .float (.pair .float .unit)), .k .bool], [none, none, none, none]⟩]) :=
  loopN (advOf (laws_flatTo_E N) (codeAt (bodyOf Try.f43) [1, 1, 1, 1, 0, 1, 0, 0])) (evC (laws_flatTo_E N) (codeAt (bodyOf Try.f43) [1, 1, 1, 1, 0, 1, 0, 0])) n ⟨[(1, .pv (.list .float) v2), (2, .pv .float v3), (8, .own (.pair .float (.pair .float .unit)) 90700), (10, .pv (.int .i64) v5), (11, .pv (.int .i64) v8)], [(90700, .arr 24 (.pair .float (.pair .float .unit)) v9)], []⟩ (kBlock 0 (kSeq (advOf (laws_flatTo_E N) (codeAt (bodyOf Try.f43) [1, 1, 1, 1, 1])) (evC (laws_flatTo_E N) (codeAt (bodyOf Try.f43) [1, 1, 1, 1, 1])) (kEnd2 (laws_flatTo_E N) [] Try.f43.results.toList [⟨[.row 24 (.pair .float (.pair .float .unit)), .k .bool], [none, none, none, none]⟩] [.dead, .dead, .dead, .dead])))
theorem laws_flatTo_t0 (N : Nat) : ∀ (n : Nat) (v2 : (List Nat)) (v3 : Nat) (v5 : Int) (v8 : Int) (v9 : (List (Nat × (Nat × Unit)))), laws_flatTo_e0 N n v2 v3 v5 v8 v9 = laws_flatTo_l0 N n v2 v3 v5 v8 v9
  | 0, _, _, _, _, _ => rfl
  | n + 1, v2, v3, v5, v8, v9 => by
    have h : laws_flatTo_e0 N n v2 v3 v5 = laws_flatTo_l0 N n v2 v3 v5 := by funext v8 v9; exact laws_flatTo_t0 N n v2 v3 v5 v8 v9
    exact (show laws_flatTo_e0 N (n + 1) v2 v3 v5 v8 v9 = laws_flatTo_g0 N v2 v3 v5 (laws_flatTo_e0 N n v2 v3 v5) v8 v9 from by kernel_rfl).trans (by rw [h]; rfl)
theorem laws_flatTo_t (N : Nat) (v1 : Int) (v2 : (List Nat)) (v3 : Nat) (v4 : Int) : evF2 (laws_flatTo_E N) [] Try.f43 [.k (.int .i64), .k (.list .float), .k .float, .k (.int .i64)] [⟨[.row 24 (.pair .float (.pair .float .unit)), .k .bool], [none, none, none, none]⟩] (v1, v2, v3, v4, ()) = laws_flatTo N v1 v2 v3 v4 := by
  have h0 : (laws_flatTo_e0 N N) = (laws_flatTo_l0 N N) := by funext v2 v3 v5 v8 v9; exact laws_flatTo_t0 N N v2 v3 v5 v8 v9
  exact (show evF2 (laws_flatTo_E N) [] Try.f43 [.k (.int .i64), .k (.list .float), .k .float, .k (.int .i64)] [⟨[.row 24 (.pair .float (.pair .float .unit)), .k .bool], [none, none, none, none]⟩] (v1, v2, v3, v4, ()) = laws_flatTo_g N v1 v2 v3 v4 (laws_flatTo_e0 N N) from by kernel_rfl).trans (by rw [h0]; rfl)
noncomputable def laws_flatTo_con (N : Nat) : Con2 := ⟨43, [.k (.int .i64), .k (.list .float), .k .float, .k (.int .i64)], [⟨[.row 24 (.pair .float (.pair .float .unit)), .k .bool], [none, none, none, none]⟩], fun x => laws_flatTo N x.1 x.2.1 x.2.2.1 x.2.2.2.1⟩
theorem laws_flatTo_s (N : Nat) : (laws_flatTo_con N).Sound Try.prog :=
  Con2.sound_of (c := laws_flatTo_con N) (E := (laws_flatTo_E N)) (idle := []) Try.func43 (by kernel_rfl) (by kernel_rfl) ⟨(allCons (spec_Stride_s N) (allCons (laws_planeTo_s N) allNil)), allNil⟩ allNil (fun x y h => (laws_flatTo_t N x.1 x.2.1 x.2.2.1 x.2.2.2.1).trans h)
/-- pub-orthodrome/laws.FnPointLinesDistance -/
noncomputable def laws_FnPointLinesDistance_E (N : Nat) : Env := ⟨Try.prog, N, [laws_planeTo_con N, laws_exactly_con N, spec_SquareTo_con N, spec_LeastRatio_con N, impl_PointLinesDistance_con N, laws_rootOf_con N, laws_nearTo_con N], [(0, ⟨[], [], [0, 1, 2], [], none⟩), (1, ⟨[], [], [0, 2, 4], [4], none⟩), (2, ⟨[], [], [0, 2, 4, 15], [4], none⟩), (3, ⟨[], [], [0, 2, 4], [4], none⟩), (4, ⟨[], [], [0, 2, 4, 7, 8], [4, 100950], none⟩), (5, ⟨[], [], [0, 2, 4, 7, 34], [4, 100950], some N⟩), (6, ⟨[], [], [0, 2, 4, 7], [4, 100950], none⟩), (7, ⟨[], [], [0, 2, 4, 7, 9], [4, 9, 100950], none⟩), (8, ⟨[], [], [0, 2, 4, 7, 9, 10], [4, 9, 100950], none⟩), (9, ⟨[], [], [0, 2, 4, 7, 9, 10], [4, 9, 100950], none⟩), (10, ⟨[], [], [0, 2, 4, 7, 9, 10], [4, 9, 100950], none⟩), (11, ⟨[], [], [0, 2, 4, 9], [4, 9], none⟩), (12, ⟨[], [], [9, 11, 12], [9], none⟩)], kdL [(24, (.pair .float (.pair .float .unit))), (65, (.pair (.pair (.pair .bool (.pair (.list (.int .u32)) .unit)) (.pair (.int .i64) .unit)) (.pair (.pair (.pair .bool (.pair (.list (.int .u32)) .unit)) (.pair (.int .i64) .unit)) .unit)))], [laws_flatTo_con N]⟩
def laws_FnPointLinesDistance_g0 (N : Nat) (v1 : Int) (v3 : (List Nat)) (v2 : (Nat × (Nat × Unit))) (v4 : ((List (Nat × (Nat × Unit))) × Bool × Unit)) : Option (Bool) :=
  (some true)
def laws_FnPointLinesDistance_j0 (N : Nat) (v1 : Int) (v3 : (List Nat)) (v2 : (Nat × (Nat × Unit))) (v4 : ((List (Nat × (Nat × Unit))) × Bool × Unit)) : Option (Bool) :=
  gate N (laws_FnPointLinesDistance_g0 N v1 v3 v2 v4)
def laws_FnPointLinesDistance_g1 (N : Nat) (v1 : Int) (v3 : (List Nat)) (v2 : (Nat × (Nat × Unit))) (v4 : ((List (Nat × (Nat × Unit))) × Bool × Unit)) (r1 : Int → Bool → (List Int) → Int → Bool → (List Int) → Int → Option (Bool)) (v23 : Int) (v24 : Bool) (v25 : (List Int)) (v26 : Int) (v27 : Bool) (v28 : (List Int)) (v29 : Int) : Option (Bool) :=
  (bif (decide ((v23 : Int) < (v4.1.length : Int))) then ((laws_exactly N (v2.1, v2.2.1, ())).bind fun v30 => (chk (IntKind.i64.wrap (v23 - 1)) v4.1.length).bind fun v31 => (v4.1[v31]?).bind fun v32 => (laws_exactly N v32).bind fun v33 => (chk v23 v4.1.length).bind fun v34 => (v4.1[v34]?).bind fun v35 => (laws_exactly N v35).bind fun v36 => (spec_SquareTo N v30 v33 v36).bind fun v37 => (spec_LeastRatio N ([(((v24, v25, ()), v26, ()), ((v27, v28, ()), v29, ()), ()), v37] : List (((Bool × ((List Int) × Unit)) × (Int × Unit)) × (((Bool × ((List Int) × Unit)) × (Int × Unit)) × Unit)))).bind fun v38 => ((r1 (IntKind.i64.wrap (v23 + 1)) v38.1.1.1 v38.1.1.2.1 v38.1.2.1 v38.2.1.1.1 v38.2.1.1.2.1 v38.2.1.2.1))) else ((impl_PointLinesDistance N v1 (v2.1, v2.2.1, ()) v3).bind fun v39 => (bif v39.2 then ((laws_rootOf N (((v24, v25, ()), v26, ()), ((v27, v28, ()), v29, ()), ())).bind fun v40 => (laws_nearTo N v39.1 v40).bind fun v41 => (some v41)) else (some false))))
def laws_FnPointLinesDistance_l1 (N : Nat) : Nat → Int → (List Nat) → (Nat × (Nat × Unit)) → ((List (Nat × (Nat × Unit))) × Bool × Unit) → Int → Bool → (List Int) → Int → Bool → (List Int) → Int → Option (Bool)
  | 0, _, _, _, _, _, _, _, _, _, _, _ => none
  | n + 1, v1, v3, v2, v4, v23, v24, v25, v26, v27, v28, v29 => laws_FnPointLinesDistance_g1 N v1 v3 v2 v4 (laws_FnPointLinesDistance_l1 N n v1 v3 v2 v4) v23 v24 v25 v26 v27 v28 v29
def laws_FnPointLinesDistance_g (N : Nat) (v1 : Int) (v2 : (Nat × (Nat × Unit))) (v3 : (List Nat)) (c0 : Int → (List Nat) → (Nat × (Nat × Unit)) → ((List (Nat × (Nat × Unit))) × Bool × Unit) → Option (Bool)) (c1 : Int → (List Nat) → (Nat × (Nat × Unit)) → ((List (Nat × (Nat × Unit))) × Bool × Unit) → Int → Bool → (List Int) → Int → Bool → (List Int) → Int → Option (Bool)) : Option (Bool) :=
  (bif (decide (((v3.length : Int) : Int) > 2147483647)) then (some true) else ((laws_flatTo N v1 v3 4665729213955833856 200).bind fun v4 => (bif (!v4.2.1) then (c0 v1 v3 v2 v4) else (bif (decide (((v4.1.length : Int) : Int) < 2)) then (c0 v1 v3 v2 v4) else ((laws_planeTo N 4665729213955833856 ([(v2.1, v2.2.1, ())] : List (Nat × (Nat × Unit)))).bind fun v5 => (gate N (bif (!v5) then (some true) else ((laws_exactly N (v2.1, v2.2.1, ())).bind fun v6 => (chk 0 v4.1.length).bind fun v7 => (v4.1[v7]?).bind fun v8 => (laws_exactly N v8).bind fun v9 => (chk 1 v4.1.length).bind fun v10 => (v4.1[v10]?).bind fun v11 => (laws_exactly N v11).bind fun v12 => (spec_SquareTo N v6 v9 v12).bind fun v13 => ((c1 v1 v3 v2 v4 2 v13.1.1.1 v13.1.1.2.1 v13.1.2.1 v13.2.1.1.1 v13.2.1.1.2.1 v13.2.1.2.1))))))))))
def laws_FnPointLinesDistance (N : Nat) (v1 : Int) (v2 : (Nat × (Nat × Unit))) (v3 : (List Nat)) : Option (Bool) :=
  laws_FnPointLinesDistance_g N v1 v2 v3 (laws_FnPointLinesDistance_j0 N) (laws_FnPointLinesDistance_l1 N N)
set_option maxRecDepth 100000
noncomputable def laws_FnPointLinesDistance_e0 (N : Nat) (v1 : Int) (v3 : (List Nat)) (v2 : (Nat × (Nat × Unit))) (v4 : ((List (Nat × (Nat × Unit))) × Bool × Unit)) : Option (HR [.bool]) :=
  gate N (evC (laws_FnPointLinesDistance_E N) (codeAt (bodyOf Try.f10) [1, 1, 1, 0, 1]) ⟨[(0, .pv (.int .i64) v1), (2, .pv (.list .float) v3), (4, .ref 4 0), (7, .own (.pair .float (.pair .float .unit)) 100950), (34, .pv .bool true)], [(4, .box [.pv .float v2.1, .pv .float v2.2.1]), (100950, .arr 24 (.pair .float (.pair .float .unit)) v4.1)], []⟩ (kSeq (advOf (laws_FnPointLinesDistance_E N) (codeAt (bodyOf Try.f10) [1, 1, 1, 1])) (evC (laws_FnPointLinesDistance_E N) (codeAt (bodyOf Try.f10) [1, 1, 1, 1])) (kEnd (laws_FnPointLinesDistance_E N) [] Try.f10.results.toList [.bool])))
noncomputable def laws_FnPointLinesDistance_e1 (N : Nat) (n : Nat) (v1 : Int) (v3 : (List Nat)) (v2 : (Nat × (Nat × Unit))) (v4 : ((List (Nat × (Nat × Unit))) × Bool × Unit)) (v23 : Int) (v24 : Bool) (v25 : (List Int)) (v26 : Int) (v27 : Bool) (v28 : (List Int)) (v29 : Int) : Option (HR [.bool]) :=
  loopN (advOf (laws_FnPointLinesDistance_E N) (codeAt (bodyOf Try.f10) [1, 1, 1, 1, 1, 0, 1, 0, 0])) (evC (laws_FnPointLinesDistance_E N) (codeAt (bodyOf Try.f10) [1, 1, 1, 1, 1, 0, 1, 0, 0])) n ⟨[(0, .pv (.int .i64) v1), (2, .pv (.list .float) v3), (4, .ref 4 0), (7, .own (.pair .float (.pair .float .unit)) 100950), (9, .ref 9 0), (10, .pv (.int .i64) v23)], [(4, .box [.pv .float v2.1, .pv .float v2.2.1]), (9, .box [.pv .bool v24, .pv (.list (.int .u32)) v25, .pv (.int .i64) v26, .pv .bool v27, .pv (.list (.int .u32)) v28, .pv (.int .i64) v29]), (100950, .arr 24 (.pair .float (.pair .float .unit)) v4.1)], []⟩ (kBlock 0 (kSeq (advOf (laws_FnPointLinesDistance_E N) (codeAt (bodyOf Try.f10) [1, 1, 1, 1, 1, 1])) (evC (laws_FnPointLinesDistance_E N) (codeAt (bodyOf Try.f10) [1, 1, 1, 1, 1, 1])) (kEnd (laws_FnPointLinesDistance_E N) [] Try.f10.results.toList [.bool])))
theorem laws_FnPointLinesDistance_t0 (N : Nat) (v1 : Int) (v3 : (List Nat)) (v2 : (Nat × (Nat × Unit))) (v4 : ((List (Nat × (Nat × Unit))) × Bool × Unit)) : laws_FnPointLinesDistance_e0 N v1 v3 v2 v4 = laws_FnPointLinesDistance_j0 N v1 v3 v2 v4 := by
  exact (congrArg (gate N) (show evC (laws_FnPointLinesDistance_E N) (codeAt (bodyOf Try.f10) [1, 1, 1, 0, 1]) ⟨[(0, .pv (.int .i64) v1), (2, .pv (.list .float) v3), (4, .ref 4 0), (7, .own (.pair .float (.pair .float .unit)) 100950), (34, .pv .bool true)], [(4, .box [.pv .float v2.1, .pv .float v2.2.1]), (100950, .arr 24 (.pair .float (.pair .float .unit)) v4.1)], []⟩ (kSeq (advOf (laws_FnPointLinesDistance_E N) (codeAt (bodyOf Try.f10) [1, 1, 1, 1])) (evC (laws_FnPointLinesDistance_E N) (codeAt (bodyOf Try.f10) [1, 1, 1, 1])) (kEnd (laws_FnPointLinesDistance_E N) [] Try.f10.results.toList [.bool])) = laws_FnPointLinesDistance_g0 N v1 v3 v2 v4 from by kernel_rfl)).trans (by rfl)
theorem laws_FnPointLinesDistance_t1 (N : Nat) : ∀ (n : Nat) (v1 : Int) (v3 : (List Nat)) (v2 : (Nat × (Nat × Unit))) (v4 : ((List (Nat × (Nat × Unit))) × Bool × Unit)) (v23 : Int) (v24 : Bool) (v25 : (List Int)) (v26 : Int) (v27 : Bool) (v28 : (List Int)) (v29 : Int), laws_FnPointLinesDistance_e1 N n v1 v3 v2 v4 v23 v24 v25 v26 v27 v28 v29 = laws_FnPointLinesDistance_l1 N n v1 v3 v2 v4 v23 v24 v25 v26 v27 v28 v29
  | 0, _, _, _, _, _, _, _, _, _, _, _ => rfl
  | n + 1, v1, v3, v2, v4, v23, v24, v25, v26, v27, v28, v29 => by
    have h : laws_FnPointLinesDistance_e1 N n v1 v3 v2 v4 = laws_FnPointLinesDistance_l1 N n v1 v3 v2 v4 := by funext v23 v24 v25 v26 v27 v28 v29; exact laws_FnPointLinesDistance_t1 N n v1 v3 v2 v4 v23 v24 v25 v26 v27 v28 v29
    exact (show laws_FnPointLinesDistance_e1 N (n + 1) v1 v3 v2 v4 v23 v24 v25 v26 v27 v28 v29 = laws_FnPointLinesDistance_g1 N v1 v3 v2 v4 (laws_FnPointLinesDistance_e1 N n v1 v3 v2 v4) v23 v24 v25 v26 v27 v28 v29 from by kernel_rfl).trans (by rw [h]; rfl)
theorem laws_FnPointLinesDistance_t (N : Nat) (v1 : Int) (v2 : (Nat × (Nat × Unit))) (v3 : (List Nat)) : evF (laws_FnPointLinesDistance_E N) [] Try.f10 [.k (.int .i64), .k (.pair .float (.pair .float .unit)), .k (.list .float)] [.bool] (v1, v2, v3, ()) = laws_FnPointLinesDistance N v1 v2 v3 := by
  have h0 : (laws_FnPointLinesDistance_e0 N) = (laws_FnPointLinesDistance_j0 N) := by funext v1 v3 v2 v4; exact laws_FnPointLinesDistance_t0 N v1 v3 v2 v4
  have h1 : (laws_FnPointLinesDistance_e1 N N) = (laws_FnPointLinesDistance_l1 N N) := by funext v1 v3 v2 v4 v23 v24 v25 v26 v27 v28 v29; exact laws_FnPointLinesDistance_t1 N N v1 v3 v2 v4 v23 v24 v25 v26 v27 v28 v29
  exact (show evF (laws_FnPointLinesDistance_E N) [] Try.f10 [.k (.int .i64), .k (.pair .float (.pair .float .unit)), .k (.list .float)] [.bool] (v1, v2, v3, ()) = laws_FnPointLinesDistance_g N v1 v2 v3 (laws_FnPointLinesDistance_e0 N) (laws_FnPointLinesDistance_e1 N N) from by kernel_rfl).trans (by rw [h0, h1]; rfl)
noncomputable def laws_FnPointLinesDistance_con (N : Nat) : Con := ⟨10, [.k (.int .i64), .k (.pair .float (.pair .float .unit)), .k (.list .float)], [.bool], fun x => laws_FnPointLinesDistance N x.1 x.2.1 x.2.2.1⟩
theorem laws_FnPointLinesDistance_s (N : Nat) : (laws_FnPointLinesDistance_con N).Sound Try.prog :=
  Con.sound_of (c := laws_FnPointLinesDistance_con N) (E := (laws_FnPointLinesDistance_E N)) (idle := []) Try.func10 (by kernel_rfl) (by kernel_rfl) ⟨(allCons (laws_planeTo_s N) (allCons (laws_exactly_s N) (allCons (spec_SquareTo_s N) (allCons (spec_LeastRatio_s N) (allCons (impl_PointLinesDistance_s N) (allCons (laws_rootOf_s N) (allCons (laws_nearTo_s N) allNil))))))), (allCons (laws_flatTo_s N) allNil)⟩ allNil (fun x y h => (laws_FnPointLinesDistance_t N x.1 x.2.1 x.2.2.1).trans h)
end Go.Proofs.Ytlbbldhbggfoaaa.UL
