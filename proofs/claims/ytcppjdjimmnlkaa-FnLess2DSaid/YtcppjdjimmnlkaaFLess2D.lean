import Derived.Test.YtcppjdjimmnlkaaProg
import Derived.Test.YtcppjdjimmnlkaaAv16
import Derived.Test.YtcppjdjimmnlkaaAv19
import Derived.Test.YtcppjdjimmnlkaaAv20
import Derived.KernelRfl
set_option linter.unusedVariables false
namespace Go.Proofs.Ytcppjdjimmnlkaa.FLess2D
open Go Go.Av
/-- pub-orthodrome/laws.gNumber -/
noncomputable def f19_E (N : Nat) : Env := ⟨Try.prog, N, [], [(0, ⟨[], [], [0], [], none⟩), (1, ⟨[], [], [0], [], none⟩)], kdL []⟩
def f19_g (N : Nat) (v1 : Nat) : Option (Bool) :=
  (some (feq v1 v1))
def f19 (N : Nat) (v1 : Nat) : Option (Bool) :=
  f19_g N v1
set_option maxRecDepth 100000
theorem f19_t (N : Nat) (v1 : Nat) : evF (f19_E N) [] Try.f19 [.k .float] [.bool] (v1, ()) = f19 N v1 := by
  exact (show evF (f19_E N) [] Try.f19 [.k .float] [.bool] (v1, ()) = f19_g N v1 from by kernel_rfl).trans (by rfl)
noncomputable def f19_con (N : Nat) : Con := ⟨19, [.k .float], [.bool], fun x => f19 N x.1⟩
theorem f19_s (N : Nat) : (f19_con N).Sound Try.prog :=
  Con.sound_of (c := f19_con N) (E := (f19_E N)) (idle := []) Try.func19 (by kernel_rfl) (by kernel_rfl) allNil allNil (fun x y h => (f19_t N x.1).trans h)
/-- pub-orthodrome/laws.gEach -/
def f18_g1 (N : Nat) (self : Geo → Option (Bool)) (v1 : Geo) (r1 : Int → Option (Bool)) (v9 : Int) : Option (Bool) :=
  (bif (decide ((v9 : Int) < (v1.kids.length : Int))) then ((nth v1.kids v9).bind fun v10 => ((self (Geo.mk v10.kind v10.layout v10.srid v10.flat v10.ends v10.endss v10.kids)).bind fun v11 => (bif (!v11) then (some false) else ((r1 (IntKind.i64.wrap (v9 + 1))))))) else (some true))
def f18_l1 (N : Nat) (self : Geo → Option (Bool)) : Nat → Geo → Int → Option (Bool)
  | 0, _, _ => none
  | n + 1, v1, v9 => f18_g1 N self v1 (f18_l1 N self n v1) v9
def f18_g0 (N : Nat) (self : Geo → Option (Bool)) (v1 : Geo) (c1 : Geo → Int → Option (Bool)) (r0 : Int → Option (Bool)) (v4 : Int) : Option (Bool) :=
  (bif (decide ((v4 : Int) < (v1.flat.length : Int))) then ((nth v1.flat v4).bind fun v5 => ((f19 N v5).bind fun v6 => (bif (!v6) then (some false) else ((r0 (IntKind.i64.wrap (v4 + 1))))))) else ((c1 v1 0)))
def f18_l0 (N : Nat) (self : Geo → Option (Bool)) : Nat → Geo → Int → Option (Bool)
  | 0, _, _ => none
  | n + 1, v1, v4 => f18_g0 N self v1 (f18_l1 N self N) (f18_l0 N self n v1) v4
def f18_g (N : Nat) (self : Geo → Option (Bool)) (v1 : Geo) (c0 : Geo → Int → Option (Bool)) : Option (Bool) :=
  ((c0 v1 0))
def f18 (N : Nat) : Nat → Geo → Option (Bool)
  | 0, _ => none
  | d + 1, v1 => f18_g N (f18 N d) v1 (f18_l0 N (f18 N d) N)
noncomputable def f18_con' (N : Nat) (d : Nat) : Con := ⟨18, [.k .geo, .fn 19], [.bool], fun x => f18 N d x.1⟩
noncomputable def f18_E (N : Nat) (d : Nat) : Env := ⟨Try.prog, N, [f18_con' N d, f19_con N], [(0, ⟨[], [], [0, 1], [], none⟩), (1, ⟨[], [], [1, 2], [2], none⟩), (2, ⟨[], [], [1, 2, 10, 11, 12], [2], none⟩), (3, ⟨[], [], [1, 2, 10, 11, 12], [2], none⟩), (4, ⟨[], [], [1, 2, 6, 10, 11, 12], [2], none⟩), (5, ⟨[], [], [1, 2, 10, 11, 12, 19], [2], none⟩), (6, ⟨[], [], [1, 2, 10, 11, 12], [2], none⟩), (7, ⟨[], [], [1, 2], [2], none⟩), (8, ⟨[], [], [1, 22, 23, 24], [], none⟩), (9, ⟨[], [], [1, 22, 23, 24], [], none⟩), (10, ⟨[], [], [1, 8, 22, 23, 24], [8], none⟩), (11, ⟨[], [], [1, 22, 23, 24, 31], [], none⟩), (12, ⟨[], [], [1, 22, 23, 24], [], none⟩), (13, ⟨[], [], [], [], none⟩)], kdL []⟩
set_option maxRecDepth 100000
noncomputable def f18_e1 (N : Nat) (d : Nat) (n : Nat) (v1 : Geo) (v9 : Int) : Option (HR [.bool]) :=
  loopN (advOf (f18_E N d) (codeAt (bodyOf Try.f18) [1, 1, 0, 1, 0, 0])) (evC (f18_E N d) (codeAt (bodyOf Try.f18) [1, 1, 0, 1, 0, 0])) n ⟨[(1, .func 19 []), (22, .pv (.list .geo) v1.kids), (23, .pv (.int .i64) (v1.kids.length : Int)), (24, .pv (.int .i64) v9)], [], []⟩ (kBlock 2 (kSeq (advOf (f18_E N d) (codeAt (bodyOf Try.f18) [1, 1, 1])) (evC (f18_E N d) (codeAt (bodyOf Try.f18) [1, 1, 1])) (kEnd (f18_E N d) [] Try.f18.results.toList [.bool])))
noncomputable def f18_e0 (N : Nat) (d : Nat) (n : Nat) (v1 : Geo) (v4 : Int) : Option (HR [.bool]) :=
  loopN (advOf (f18_E N d) (codeAt (bodyOf Try.f18) [1, 0, 1, 0, 0])) (evC (f18_E N d) (codeAt (bodyOf Try.f18) [1, 0, 1, 0, 0])) n ⟨[(1, .func 19 []), (2, .ref 2 0), (10, .pv (.list .float) v1.flat), (11, .pv (.int .i64) (v1.flat.length : Int)), (12, .pv (.int .i64) v4)], [(2, .box [.pv (.int .i64) v1.kind, .pv (.int .i64) v1.layout, .pv (.int .i64) v1.srid, .pv (.list .float) v1.flat, .pv (.list (.int .i64)) v1.ends, .pv (.list (.list (.int .i64))) v1.endss, .pv (.list .geo) v1.kids])], []⟩ (kBlock 0 (kSeq (advOf (f18_E N d) (codeAt (bodyOf Try.f18) [1, 1])) (evC (f18_E N d) (codeAt (bodyOf Try.f18) [1, 1])) (kEnd (f18_E N d) [] Try.f18.results.toList [.bool])))
theorem f18_t1 (N : Nat) (d : Nat) : ∀ (n : Nat) (v1 : Geo) (v9 : Int), f18_e1 N d n v1 v9 = f18_l1 N (f18 N d) n v1 v9
  | 0, _, _ => rfl
  | n + 1, v1, v9 => by
    have h : f18_e1 N d n v1 = f18_l1 N (f18 N d) n v1 := by funext v9; exact f18_t1 N d n v1 v9
    exact (show f18_e1 N d (n + 1) v1 v9 = f18_g1 N (f18 N d) v1 (f18_e1 N d n v1) v9 from by kernel_rfl).trans (by rw [h]; rfl)
theorem f18_t0 (N : Nat) (d : Nat) : ∀ (n : Nat) (v1 : Geo) (v4 : Int), f18_e0 N d n v1 v4 = f18_l0 N (f18 N d) n v1 v4
  | 0, _, _ => rfl
  | n + 1, v1, v4 => by
    have h1 : (f18_e1 N d N) = (f18_l1 N (f18 N d) N) := by funext v1 v9; exact f18_t1 N d N v1 v9
    have h : f18_e0 N d n v1 = f18_l0 N (f18 N d) n v1 := by funext v4; exact f18_t0 N d n v1 v4
    exact (show f18_e0 N d (n + 1) v1 v4 = f18_g0 N (f18 N d) v1 (f18_e1 N d N) (f18_e0 N d n v1) v4 from by kernel_rfl).trans (by rw [h1, h]; rfl)
theorem f18_t (N : Nat) (d : Nat) (v1 : Geo) : evF (f18_E N d) [] Try.f18 [.k .geo, .fn 19] [.bool] (v1, ()) = f18 N (d + 1) v1 := by
  have h0 : (f18_e0 N d N) = (f18_l0 N (f18 N d) N) := by funext v1 v4; exact f18_t0 N d N v1 v4
  exact (show evF (f18_E N d) [] Try.f18 [.k .geo, .fn 19] [.bool] (v1, ()) = f18_g N (f18 N d) v1 (f18_e0 N d N) from by kernel_rfl).trans (by rw [h0]; rfl)
theorem f18_s' (N : Nat) : ∀ d, (f18_con' N d).Sound Try.prog
  | 0 => fun _ _ _ _ _ _ _ h => by cases h
  | d + 1 => Con.sound_of (c := f18_con' N (d + 1)) (E := (f18_E N d)) (idle := []) Try.func18 (by kernel_rfl) (by kernel_rfl) (allCons (f18_s' N d) (allCons (f19_s N) allNil)) allNil (fun x y h => (f18_t N d x.1).trans h)
noncomputable def f18_con (N : Nat) : Con := f18_con' N N
theorem f18_s (N : Nat) : (f18_con N).Sound Try.prog := f18_s' N N
/-- pub-orthodrome/pub/gogeom/sorting.IsLess2D -/
noncomputable def f35_E (N : Nat) : Env := ⟨Try.prog, N, [], [(0, ⟨[], [], [0, 1], [], none⟩), (1, ⟨[], [], [0, 1], [], none⟩), (2, ⟨[], [], [0, 1, 11], [], none⟩), (3, ⟨[], [], [0, 1], [], none⟩), (4, ⟨[], [], [0, 1, 18], [], none⟩), (5, ⟨[], [], [0, 1], [], none⟩), (6, ⟨[], [], [25], [], none⟩), (7, ⟨[], [], [], [], none⟩)], kdL []⟩
def f35_g (N : Nat) (v1 : (List Nat)) (v2 : (List Nat)) : Option (Bool) :=
  ((nth v1 0).bind fun v3 => (nth v2 0).bind fun v4 => (bif (flt v3 v4) then (some true) else ((nth v1 0).bind fun v5 => (nth v2 0).bind fun v6 => (bif (fgt v5 v6) then (some false) else ((nth v1 1).bind fun v7 => (nth v2 1).bind fun v8 => (bif (flt v7 v8) then (some true) else (some false)))))))
def f35 (N : Nat) (v1 : (List Nat)) (v2 : (List Nat)) : Option (Bool) :=
  f35_g N v1 v2
set_option maxRecDepth 100000
theorem f35_t (N : Nat) (v1 : (List Nat)) (v2 : (List Nat)) : evF (f35_E N) [] Try.f35 [.k (.list .float), .k (.list .float)] [.bool] (v1, v2, ()) = f35 N v1 v2 := by
  exact (show evF (f35_E N) [] Try.f35 [.k (.list .float), .k (.list .float)] [.bool] (v1, v2, ()) = f35_g N v1 v2 from by kernel_rfl).trans (by rfl)
noncomputable def f35_con (N : Nat) : Con := ⟨35, [.k (.list .float), .k (.list .float)], [.bool], fun x => f35 N x.1 x.2.1⟩
theorem f35_s (N : Nat) : (f35_con N).Sound Try.prog :=
  Con.sound_of (c := f35_con N) (E := (f35_E N)) (idle := []) Try.func35 (by kernel_rfl) (by kernel_rfl) allNil allNil (fun x y h => (f35_t N x.1 x.2.1).trans h)
/-- pub-orthodrome/impl.Less2D -/
noncomputable def f20_E (N : Nat) : Env := ⟨Try.prog, N, [f35_con N], [(0, ⟨[], [], [0, 1], [], none⟩), (1, ⟨[], [], [0, 1, 4, 5], [4, 5], none⟩), (2, ⟨[], [], [0, 1, 4, 5], [4, 5], none⟩)], kdL []⟩
def f20_g (N : Nat) (v1 : (List Nat)) (v2 : (List Nat)) : Option (Bool × Bool) :=
  ((f35 N v1 v2).bind fun v3 => (some (v3, true)))
def f20 (N : Nat) (v1 : (List Nat)) (v2 : (List Nat)) : Option (Bool × Bool) :=
  f20_g N v1 v2
set_option maxRecDepth 100000
theorem f20_t (N : Nat) (v1 : (List Nat)) (v2 : (List Nat)) : evF (f20_E N) [34] Try.f20 [.k (.list .float), .k (.list .float)] [.bool, .bool] (v1, v2, ()) = f20 N v1 v2 := by
  exact (show evF (f20_E N) [34] Try.f20 [.k (.list .float), .k (.list .float)] [.bool, .bool] (v1, v2, ()) = f20_g N v1 v2 from by kernel_rfl).trans (by rfl)
noncomputable def f20_con (N : Nat) : Con := ⟨20, [.k (.list .float), .k (.list .float)], [.bool, .bool], fun x => f20 N x.1 x.2.1⟩
theorem f20_s (N : Nat) : (f20_con N).Sound Try.prog :=
  Con.sound_of (c := f20_con N) (E := (f20_E N)) (idle := [34]) Try.func20 (by kernel_rfl) (by kernel_rfl) (allCons (f35_s N) allNil) (allCons (idle_of Try.func34 (by kernel_rfl)) allNil) (fun x y h => (f20_t N x.1 x.2.1).trans h)
/-- pub-orthodrome/spec.Before -/
noncomputable def f21_E (N : Nat) : Env := ⟨Try.prog, N, [], [(0, ⟨[], [], [0, 1, 2], [], none⟩), (1, ⟨[], [], [0, 1, 2], [], none⟩), (2, ⟨[], [], [1, 2, 8], [], none⟩), (3, ⟨[], [], [1, 2, 8, 9], [], none⟩), (5, ⟨[], [], [1, 2, 8, 18], [], none⟩), (6, ⟨[], [], [1, 2, 21, 22], [], none⟩), (7, ⟨[], [], [1, 2, 21, 22], [], none⟩), (8, ⟨[], [], [1, 2, 7, 21, 22], [], none⟩), (9, ⟨[], [], [1, 2, 7, 21, 22, 33], [], none⟩), (10, ⟨[], [], [1, 2, 21, 22], [], none⟩), (11, ⟨[], [], [], [], none⟩), (13, ⟨[], [], [1, 2, 44], [], none⟩), (14, ⟨[], [], [1, 2], [], none⟩)], kdL []⟩
def f21_g0 (N : Nat) (v2 : (List Nat)) (v3 : (List Nat)) (r0 : Int → Option (Bool)) (v10 : Int) : Option (Bool) :=
  (bif (decide ((v10 : Int) < (v2.length : Int))) then ((nth v2 v10).bind fun v11 => (nth v3 v10).bind fun v12 => (bif (fne v11 v12) then ((nth v2 v10).bind fun v13 => (nth v3 v10).bind fun v14 => (some (flt v13 v14))) else ((r0 (IntKind.i64.wrap (v10 + 1)))))) else (some false))
def f21_l0 (N : Nat) : Nat → (List Nat) → (List Nat) → Int → Option (Bool)
  | 0, _, _, _ => none
  | n + 1, v2, v3, v10 => f21_g0 N v2 v3 (f21_l0 N n v2 v3) v10
def f21_g (N : Nat) (v1 : Int) (v2 : (List Nat)) (v3 : (List Nat)) (c0 : (List Nat) → (List Nat) → Int → Option (Bool)) : Option (Bool) :=
  (bif (v1 == 1) then ((nth v2 0).bind fun v4 => (nth v3 0).bind fun v5 => (some (flt v4 v5))) else (bif (v1 == 2) then ((c0 v2 v3 0)) else (bif (v1 == 3) then ((nth v2 0).bind fun v15 => (nth v3 0).bind fun v16 => bif (fgt v15 v16) then (some true) else ((nth v2 0).bind fun v17 => (nth v3 0).bind fun v18 => bif (feq v17 v18) then ((nth v2 1).bind fun v19 => (nth v3 1).bind fun v20 => (some (fgt v19 v20))) else (some false))) else ((nth v2 0).bind fun v21 => (nth v3 0).bind fun v22 => bif (flt v21 v22) then (some true) else ((nth v2 0).bind fun v23 => (nth v3 0).bind fun v24 => bif (feq v23 v24) then ((nth v2 1).bind fun v25 => (nth v3 1).bind fun v26 => (some (flt v25 v26))) else (some false))))))
def f21 (N : Nat) (v1 : Int) (v2 : (List Nat)) (v3 : (List Nat)) : Option (Bool) :=
  f21_g N v1 v2 v3 (f21_l0 N N)
set_option maxRecDepth 100000
noncomputable def f21_e0 (N : Nat) (n : Nat) (v2 : (List Nat)) (v3 : (List Nat)) (v10 : Int) : Option (HR [.bool]) :=
  loopN (advOf (f21_E N) (codeAt (bodyOf Try.f21) [1, 0, 1, 0, 1, 1, 1, 0, 0, 1, 0, 0])) (evC (f21_E N) (codeAt (bodyOf Try.f21) [1, 0, 1, 0, 1, 1, 1, 0, 0, 1, 0, 0])) n ⟨[(1, .pv (.list .float) v2), (2, .pv (.list .float) v3), (21, .pv (.int .i64) (v2.length : Int)), (22, .pv (.int .i64) v10)], [], []⟩ (kBlock 1 (kSeq (advOf (f21_E N) (codeAt (bodyOf Try.f21) [1, 0, 1, 0, 1, 1, 1, 0, 1])) (evC (f21_E N) (codeAt (bodyOf Try.f21) [1, 0, 1, 0, 1, 1, 1, 0, 1])) (kBlock 0 (kSeq (advOf (f21_E N) (codeAt (bodyOf Try.f21) [1, 1])) (evC (f21_E N) (codeAt (bodyOf Try.f21) [1, 1])) (kEnd (f21_E N) [] Try.f21.results.toList [.bool])))))
theorem f21_t0 (N : Nat) : ∀ (n : Nat) (v2 : (List Nat)) (v3 : (List Nat)) (v10 : Int), f21_e0 N n v2 v3 v10 = f21_l0 N n v2 v3 v10
  | 0, _, _, _ => rfl
  | n + 1, v2, v3, v10 => by
    have h : f21_e0 N n v2 v3 = f21_l0 N n v2 v3 := by funext v10; exact f21_t0 N n v2 v3 v10
    exact (show f21_e0 N (n + 1) v2 v3 v10 = f21_g0 N v2 v3 (f21_e0 N n v2 v3) v10 from by kernel_rfl).trans (by rw [h]; rfl)
theorem f21_t (N : Nat) (v1 : Int) (v2 : (List Nat)) (v3 : (List Nat)) : evF (f21_E N) [] Try.f21 [.k (.int .i64), .k (.list .float), .k (.list .float)] [.bool] (v1, v2, v3, ()) = f21 N v1 v2 v3 := by
  have h0 : (f21_e0 N N) = (f21_l0 N N) := by funext v2 v3 v10; exact f21_t0 N N v2 v3 v10
  exact (show evF (f21_E N) [] Try.f21 [.k (.int .i64), .k (.list .float), .k (.list .float)] [.bool] (v1, v2, v3, ()) = f21_g N v1 v2 v3 (f21_e0 N N) from by kernel_rfl).trans (by rw [h0]; rfl)
noncomputable def f21_con (N : Nat) : Con := ⟨21, [.k (.int .i64), .k (.list .float), .k (.list .float)], [.bool], fun x => f21 N x.1 x.2.1 x.2.2.1⟩
theorem f21_s (N : Nat) : (f21_con N).Sound Try.prog :=
  Con.sound_of (c := f21_con N) (E := (f21_E N)) (idle := []) Try.func21 (by kernel_rfl) (by kernel_rfl) allNil allNil (fun x y h => (f21_t N x.1 x.2.1 x.2.2.1).trans h)
/-- pub-orthodrome/laws.FnLess2D -/
noncomputable def f7_E (N : Nat) : Env := ⟨Try.prog, N, [f18_con N, f20_con N, f21_con N], [(0, ⟨[], [], [0, 1], [], none⟩), (1, ⟨[], [], [0, 1], [], none⟩), (2, ⟨[], [], [0, 1, 14], [], none⟩), (3, ⟨[], [], [0, 1], [], none⟩), (4, ⟨[], [], [0, 1, 44], [], some N⟩), (5, ⟨[], [], [0, 1], [], none⟩), (6, ⟨[], [], [0, 1, 5, 6], [], none⟩)], kdL []⟩
def f7_g0 (N : Nat) (v1 : (List Nat)) (v2 : (List Nat)) : Option (Bool) :=
  (some true)
def f7_j0 (N : Nat) (v1 : (List Nat)) (v2 : (List Nat)) : Option (Bool) :=
  gate N (f7_g0 N v1 v2)
def f7_g (N : Nat) (v1 : (List Nat)) (v2 : (List Nat)) (c0 : (List Nat) → (List Nat) → Option (Bool)) : Option (Bool) :=
  (bif (decide (((v1.length : Int) : Int) > 2147483647)) then (some true) else (bif (decide (((v2.length : Int) : Int) > 2147483647)) then (some true) else (bif (decide (((v1.length : Int) : Int) < 2)) then (c0 v1 v2) else (bif (decide (((v2.length : Int) : Int) < 2)) then (c0 v1 v2) else (bif (decide (((v1.length : Int) : Int) > 9)) then (c0 v1 v2) else (bif (decide (((v2.length : Int) : Int) > 9)) then (c0 v1 v2) else ((f18 N N (Geo.mk 0 0 0 v1 ([] : List Int) ([] : List (List Int)) ([] : List Geo))).bind fun v3 => bif (!v3) then (c0 v1 v2) else ((f18 N N (Geo.mk 0 0 0 v2 ([] : List Int) ([] : List (List Int)) ([] : List Geo))).bind fun v4 => (gate N (bif (!v4) then (some true) else ((f20 N v1 v2).bind fun v5 => (bif v5.2 then ((f21 N 0 v1 v2).bind fun v6 => (some (v5.1 == v6))) else (some false)))))))))))))
def f7 (N : Nat) (v1 : (List Nat)) (v2 : (List Nat)) : Option (Bool) :=
  f7_g N v1 v2 (f7_j0 N)
set_option maxRecDepth 100000
noncomputable def f7_e0 (N : Nat) (v1 : (List Nat)) (v2 : (List Nat)) : Option (HR [.bool]) :=
  gate N (evC (f7_E N) (codeAt (bodyOf Try.f7) [1, 1, 0, 1]) ⟨[(0, .pv (.list .float) v1), (1, .pv (.list .float) v2), (44, .pv .bool true)], [], []⟩ (kSeq (advOf (f7_E N) (codeAt (bodyOf Try.f7) [1, 1, 1])) (evC (f7_E N) (codeAt (bodyOf Try.f7) [1, 1, 1])) (kEnd (f7_E N) [] Try.f7.results.toList [.bool])))
theorem f7_t0 (N : Nat) (v1 : (List Nat)) (v2 : (List Nat)) : f7_e0 N v1 v2 = f7_j0 N v1 v2 := by
  exact (congrArg (gate N) (show evC (f7_E N) (codeAt (bodyOf Try.f7) [1, 1, 0, 1]) ⟨[(0, .pv (.list .float) v1), (1, .pv (.list .float) v2), (44, .pv .bool true)], [], []⟩ (kSeq (advOf (f7_E N) (codeAt (bodyOf Try.f7) [1, 1, 1])) (evC (f7_E N) (codeAt (bodyOf Try.f7) [1, 1, 1])) (kEnd (f7_E N) [] Try.f7.results.toList [.bool])) = f7_g0 N v1 v2 from by kernel_rfl)).trans (by rfl)
theorem f7_t (N : Nat) (v1 : (List Nat)) (v2 : (List Nat)) : evF (f7_E N) [] Try.f7 [.k (.list .float), .k (.list .float)] [.bool] (v1, v2, ()) = f7 N v1 v2 := by
  have h0 : (f7_e0 N) = (f7_j0 N) := by funext v1 v2; exact f7_t0 N v1 v2
  exact (show evF (f7_E N) [] Try.f7 [.k (.list .float), .k (.list .float)] [.bool] (v1, v2, ()) = f7_g N v1 v2 (f7_e0 N) from by kernel_rfl).trans (by rw [h0]; rfl)
noncomputable def f7_con (N : Nat) : Con := ⟨7, [.k (.list .float), .k (.list .float)], [.bool], fun x => f7 N x.1 x.2.1⟩
theorem f7_s (N : Nat) : (f7_con N).Sound Try.prog :=
  Con.sound_of (c := f7_con N) (E := (f7_E N)) (idle := []) Try.func7 (by kernel_rfl) (by kernel_rfl) (allCons (f18_s N) (allCons (f20_s N) (allCons (f21_s N) allNil))) allNil (fun x y h => (f7_t N x.1 x.2.1).trans h)
end Go.Proofs.Ytcppjdjimmnlkaa.FLess2D
