import Derived.Test.YtcppjdjimmnlkaaProg
import Derived.Test.YtcppjdjimmnlkaaAv16
import Derived.Test.YtcppjdjimmnlkaaAv19
import Derived.Test.YtcppjdjimmnlkaaAv20
import Derived.Test.YtcppjdjimmnlkaaAv21
import Derived.Test.YtcppjdjimmnlkaaAv25
import Derived.KernelRfl
set_option linter.unusedVariables false
namespace Go.Proofs.Ytcppjdjimmnlkaa.FRev
open Go Go.Av
/-- pub-orthodrome/laws.fStride -/
noncomputable def laws_fStride_E (N : Nat) : Env := ⟨Try.prog, N, [], [(0, ⟨[], [], [0], [], none⟩), (1, ⟨[], [], [0], [], none⟩)], kdL [], []⟩
def laws_fStride_g (N : Nat) (v1 : Int) : Option (Bool) :=
  (bif (decide ((v1 : Int) ≥ 2)) then (some (decide ((v1 : Int) ≤ 9))) else (some false))
def laws_fStride (N : Nat) (v1 : Int) : Option (Bool) :=
  laws_fStride_g N v1
set_option maxRecDepth 100000
theorem laws_fStride_t (N : Nat) (v1 : Int) : evF (laws_fStride_E N) [] Try.f27 [.k (.int .i64)] [.bool] (v1, ()) = laws_fStride N v1 := by
  exact (show evF (laws_fStride_E N) [] Try.f27 [.k (.int .i64)] [.bool] (v1, ()) = laws_fStride_g N v1 from by kernel_rfl).trans (by rfl)
noncomputable def laws_fStride_con (N : Nat) : Con := ⟨27, [.k (.int .i64)], [.bool], fun x => laws_fStride N x.1⟩
theorem laws_fStride_s (N : Nat) : (laws_fStride_con N).Sound Try.prog :=
  Con.sound_of (c := laws_fStride_con N) (E := (laws_fStride_E N)) (idle := []) Try.func27 (by kernel_rfl) (by kernel_rfl) ⟨allNil, allNil⟩ allNil (fun x y h => (laws_fStride_t N x.1).trans h)
/-- pub-orthodrome/laws.fLayout -/
noncomputable def laws_fLayout_E (N : Nat) : Env := ⟨Try.prog, N, [], [(0, ⟨[], [], [0], [], none⟩), (1, ⟨[], [], [0], [], none⟩), (2, ⟨[], [], [0, 4], [], none⟩), (3, ⟨[], [], [0], [], none⟩), (4, ⟨[], [], [0, 6], [], none⟩), (5, ⟨[], [], [0], [], none⟩)], kdL [], []⟩
def laws_fLayout_g (N : Nat) (v1 : Int) : Option (Int) :=
  (bif (v1 == 2) then (some 1) else (bif (v1 == 3) then (some 2) else (some v1)))
def laws_fLayout (N : Nat) (v1 : Int) : Option (Int) :=
  laws_fLayout_g N v1
set_option maxRecDepth 100000
theorem laws_fLayout_t (N : Nat) (v1 : Int) : evF (laws_fLayout_E N) [] Try.f28 [.k (.int .i64)] [(.int .i64)] (v1, ()) = laws_fLayout N v1 := by
  exact (show evF (laws_fLayout_E N) [] Try.f28 [.k (.int .i64)] [(.int .i64)] (v1, ()) = laws_fLayout_g N v1 from by kernel_rfl).trans (by rfl)
noncomputable def laws_fLayout_con (N : Nat) : Con := ⟨28, [.k (.int .i64)], [(.int .i64)], fun x => laws_fLayout N x.1⟩
theorem laws_fLayout_s (N : Nat) : (laws_fLayout_con N).Sound Try.prog :=
  Con.sound_of (c := laws_fLayout_con N) (E := (laws_fLayout_E N)) (idle := []) Try.func28 (by kernel_rfl) (by kernel_rfl) ⟨allNil, allNil⟩ allNil (fun x y h => (laws_fLayout_t N x.1).trans h)
/-- pub-orthodrome/spec.Weight -/
def spec_Weight_g1 (N : Nat) (self : Geo → Int → Option (Int)) (v2 : Int) (v1 : Geo) (r1 : Int → Int → Option (Int)) (v9 : Int) (v10 : Int) : Option (Int) :=
  (bif (decide ((v10 : Int) < (v1.kids.length : Int))) then ((nth v1.kids v10).bind fun v11 => (bif (decide ((v9 : Int) > v2)) then (some v9) else ((self (Geo.mk v11.kind v11.layout v11.srid v11.flat v11.ends v11.endss v11.kids) (IntKind.i64.wrap (v2 - v9))).bind fun v12 => ((r1 (IntKind.i64.wrap (v9 + v12)) (IntKind.i64.wrap (v10 + 1))))))) else (some v9))
def spec_Weight_l1 (N : Nat) (self : Geo → Int → Option (Int)) : Nat → Int → Geo → Int → Int → Option (Int)
  | 0, _, _, _, _ => none
  | n + 1, v2, v1, v9, v10 => spec_Weight_g1 N self v2 v1 (spec_Weight_l1 N self n v2 v1) v9 v10
def spec_Weight_g0 (N : Nat) (self : Geo → Int → Option (Int)) (v2 : Int) (v1 : Geo) (c1 : Int → Geo → Int → Int → Option (Int)) (r0 : Int → Int → Option (Int)) (v4 : Int) (v5 : Int) : Option (Int) :=
  (bif (decide ((v5 : Int) < (v1.endss.length : Int))) then ((nth v1.endss v5).bind fun v6 => ((r0 (IntKind.i64.wrap (v4 + (IntKind.i64.wrap (1 + (v6.length : Int))))) (IntKind.i64.wrap (v5 + 1))))) else ((c1 v2 v1 v4 0)))
def spec_Weight_l0 (N : Nat) (self : Geo → Int → Option (Int)) : Nat → Int → Geo → Int → Int → Option (Int)
  | 0, _, _, _, _ => none
  | n + 1, v2, v1, v4, v5 => spec_Weight_g0 N self v2 v1 (spec_Weight_l1 N self N) (spec_Weight_l0 N self n v2 v1) v4 v5
def spec_Weight_g (N : Nat) (self : Geo → Int → Option (Int)) (v1 : Geo) (v2 : Int) (c0 : Int → Geo → Int → Int → Option (Int)) : Option (Int) :=
  ((c0 v2 v1 (IntKind.i64.wrap ((IntKind.i64.wrap (1 + (v1.flat.length : Int))) + (v1.ends.length : Int))) 0))
def spec_Weight (N : Nat) : Nat → Geo → Int → Option (Int)
  | 0, _, _ => none
  | d + 1, v1, v2 => spec_Weight_g N (spec_Weight N d) v1 v2 (spec_Weight_l0 N (spec_Weight N d) N)
noncomputable def spec_Weight_con' (N : Nat) (d : Nat) : Con := ⟨44, [.k .geo, .k (.int .i64)], [(.int .i64)], fun x => spec_Weight N d x.1 x.2.1⟩
noncomputable def spec_Weight_E (N : Nat) (d : Nat) : Env := ⟨Try.prog, N, [spec_Weight_con' N d], [(0, ⟨[], [], [0, 1], [], none⟩), (1, ⟨[], [], [1, 2], [2], none⟩), (2, ⟨[], [], [1, 2, 5], [2], none⟩), (3, ⟨[], [], [1, 2, 5, 19, 20, 21], [2], none⟩), (4, ⟨[], [], [1, 2, 5, 19, 20, 21], [2], none⟩), (5, ⟨[], [], [1, 2, 5, 7, 19, 20, 21], [2], none⟩), (6, ⟨[], [], [1, 2, 5, 19, 20, 21], [2], none⟩), (7, ⟨[], [], [1, 2, 5], [2], none⟩), (8, ⟨[], [], [1, 5, 32, 33, 34], [], none⟩), (9, ⟨[], [], [1, 5, 32, 33, 34], [], none⟩), (10, ⟨[], [], [1, 5, 9, 32, 33, 34], [9], none⟩), (11, ⟨[], [], [1, 5, 9, 32, 33, 34, 40], [9], none⟩), (12, ⟨[], [], [1, 5, 9, 32, 33, 34], [9], none⟩), (13, ⟨[], [], [1, 5, 32, 33, 34], [], none⟩), (14, ⟨[], [], [5], [], none⟩)], kdL [], []⟩
set_option maxRecDepth 100000
noncomputable def spec_Weight_e1 (N : Nat) (d : Nat) (n : Nat) (v2 : Int) (v1 : Geo) (v9 : Int) (v10 : Int) : Option (HR [(.int .i64)]) :=
  loopN (advOf (spec_Weight_E N d) (codeAt (bodyOf Try.f44) [1, 1, 1, 0, 1, 0, 0])) (evC (spec_Weight_E N d) (codeAt (bodyOf Try.f44) [1, 1, 1, 0, 1, 0, 0])) n ⟨[(1, .pv (.int .i64) v2), (5, .pv (.int .i64) v9), (32, .pv (.list .geo) v1.kids), (33, .pv (.int .i64) (v1.kids.length : Int)), (34, .pv (.int .i64) v10)], [], []⟩ (kBlock 2 (kSeq (advOf (spec_Weight_E N d) (codeAt (bodyOf Try.f44) [1, 1, 1, 1])) (evC (spec_Weight_E N d) (codeAt (bodyOf Try.f44) [1, 1, 1, 1])) (kEnd (spec_Weight_E N d) [] Try.f44.results.toList [(.int .i64)])))
noncomputable def spec_Weight_e0 (N : Nat) (d : Nat) (n : Nat) (v2 : Int) (v1 : Geo) (v4 : Int) (v5 : Int) : Option (HR [(.int .i64)]) :=
  loopN (advOf (spec_Weight_E N d) (codeAt (bodyOf Try.f44) [1, 1, 0, 1, 0, 0])) (evC (spec_Weight_E N d) (codeAt (bodyOf Try.f44) [1, 1, 0, 1, 0, 0])) n ⟨[(1, .pv (.int .i64) v2), (2, .ref 2 0), (5, .pv (.int .i64) v4), (19, .pv (.list (.list (.int .i64))) v1.endss), (20, .pv (.int .i64) (v1.endss.length : Int)), (21, .pv (.int .i64) v5)], [(2, .box [.pv (.int .i64) v1.kind, .pv (.int .i64) v1.layout, .pv (.int .i64) v1.srid, .pv (.list .float) v1.flat, .pv (.list (.int .i64)) v1.ends, .pv (.list (.list (.int .i64))) v1.endss, .pv (.list .geo) v1.kids])], []⟩ (kBlock 0 (kSeq (advOf (spec_Weight_E N d) (codeAt (bodyOf Try.f44) [1, 1, 1])) (evC (spec_Weight_E N d) (codeAt (bodyOf Try.f44) [1, 1, 1])) (kEnd (spec_Weight_E N d) [] Try.f44.results.toList [(.int .i64)])))
theorem spec_Weight_t1 (N : Nat) (d : Nat) : ∀ (n : Nat) (v2 : Int) (v1 : Geo) (v9 : Int) (v10 : Int), spec_Weight_e1 N d n v2 v1 v9 v10 = spec_Weight_l1 N (spec_Weight N d) n v2 v1 v9 v10
  | 0, _, _, _, _ => rfl
  | n + 1, v2, v1, v9, v10 => by
    have h : spec_Weight_e1 N d n v2 v1 = spec_Weight_l1 N (spec_Weight N d) n v2 v1 := by funext v9 v10; exact spec_Weight_t1 N d n v2 v1 v9 v10
    exact (show spec_Weight_e1 N d (n + 1) v2 v1 v9 v10 = spec_Weight_g1 N (spec_Weight N d) v2 v1 (spec_Weight_e1 N d n v2 v1) v9 v10 from by kernel_rfl).trans (by rw [h]; rfl)
theorem spec_Weight_t0 (N : Nat) (d : Nat) : ∀ (n : Nat) (v2 : Int) (v1 : Geo) (v4 : Int) (v5 : Int), spec_Weight_e0 N d n v2 v1 v4 v5 = spec_Weight_l0 N (spec_Weight N d) n v2 v1 v4 v5
  | 0, _, _, _, _ => rfl
  | n + 1, v2, v1, v4, v5 => by
    have h1 : (spec_Weight_e1 N d N) = (spec_Weight_l1 N (spec_Weight N d) N) := by funext v2 v1 v9 v10; exact spec_Weight_t1 N d N v2 v1 v9 v10
    have h : spec_Weight_e0 N d n v2 v1 = spec_Weight_l0 N (spec_Weight N d) n v2 v1 := by funext v4 v5; exact spec_Weight_t0 N d n v2 v1 v4 v5
    exact (show spec_Weight_e0 N d (n + 1) v2 v1 v4 v5 = spec_Weight_g0 N (spec_Weight N d) v2 v1 (spec_Weight_e1 N d N) (spec_Weight_e0 N d n v2 v1) v4 v5 from by kernel_rfl).trans (by rw [h1, h]; rfl)
theorem spec_Weight_t (N : Nat) (d : Nat) (v1 : Geo) (v2 : Int) : evF (spec_Weight_E N d) [] Try.f44 [.k .geo, .k (.int .i64)] [(.int .i64)] (v1, v2, ()) = spec_Weight N (d + 1) v1 v2 := by
  have h0 : (spec_Weight_e0 N d N) = (spec_Weight_l0 N (spec_Weight N d) N) := by funext v2 v1 v4 v5; exact spec_Weight_t0 N d N v2 v1 v4 v5
  exact (show evF (spec_Weight_E N d) [] Try.f44 [.k .geo, .k (.int .i64)] [(.int .i64)] (v1, v2, ()) = spec_Weight_g N (spec_Weight N d) v1 v2 (spec_Weight_e0 N d N) from by kernel_rfl).trans (by rw [h0]; rfl)
theorem spec_Weight_s' (N : Nat) : ∀ d, (spec_Weight_con' N d).Sound Try.prog
  | 0 => fun _ _ _ _ _ _ _ h => by cases h
  | d + 1 => Con.sound_of (c := spec_Weight_con' N (d + 1)) (E := (spec_Weight_E N d)) (idle := []) Try.func44 (by kernel_rfl) (by kernel_rfl) ⟨(allCons (spec_Weight_s' N d) allNil), allNil⟩ allNil (fun x y h => (spec_Weight_t N d x.1 x.2.1).trans h)
noncomputable def spec_Weight_con (N : Nat) : Con := spec_Weight_con' N N
theorem spec_Weight_s (N : Nat) : (spec_Weight_con N).Sound Try.prog := spec_Weight_s' N N
/-- pub-orthodrome/laws.gLayouts -/
def laws_gLayouts_g0 (N : Nat) (self : Geo → Int → Option (Bool)) (v2 : Int) (v1 : Geo) (r0 : Int → Option (Bool)) (v5 : Int) : Option (Bool) :=
  (bif (decide ((v5 : Int) < (v1.kids.length : Int))) then ((nth v1.kids v5).bind fun v6 => ((self (Geo.mk v6.kind v6.layout v6.srid v6.flat v6.ends v6.endss v6.kids) v2).bind fun v7 => (bif (!v7) then (some false) else ((r0 (IntKind.i64.wrap (v5 + 1))))))) else (bif (decide ((v1.layout : Int) ≤ v2)) then (bif (decide ((v1.layout : Int) ≥ 1)) then (some true) else (bif (v1.kind == 7) then (some (decide ((v1.layout : Int) ≥ 0))) else (some false))) else (some false)))
def laws_gLayouts_l0 (N : Nat) (self : Geo → Int → Option (Bool)) : Nat → Int → Geo → Int → Option (Bool)
  | 0, _, _, _ => none
  | n + 1, v2, v1, v5 => laws_gLayouts_g0 N self v2 v1 (laws_gLayouts_l0 N self n v2 v1) v5
def laws_gLayouts_g (N : Nat) (self : Geo → Int → Option (Bool)) (v1 : Geo) (v2 : Int) (c0 : Int → Geo → Int → Option (Bool)) : Option (Bool) :=
  ((c0 v2 v1 0))
def laws_gLayouts (N : Nat) : Nat → Geo → Int → Option (Bool)
  | 0, _, _ => none
  | d + 1, v1, v2 => laws_gLayouts_g N (laws_gLayouts N d) v1 v2 (laws_gLayouts_l0 N (laws_gLayouts N d) N)
noncomputable def laws_gLayouts_con' (N : Nat) (d : Nat) : Con := ⟨45, [.k .geo, .k (.int .i64)], [.bool], fun x => laws_gLayouts N d x.1 x.2.1⟩
noncomputable def laws_gLayouts_E (N : Nat) (d : Nat) : Env := ⟨Try.prog, N, [laws_gLayouts_con' N d], [(0, ⟨[], [], [0, 1], [], none⟩), (1, ⟨[], [], [1, 2], [2], none⟩), (2, ⟨[], [], [1, 2, 8, 9, 10], [2], none⟩), (3, ⟨[], [], [1, 2, 8, 9, 10], [2], none⟩), (4, ⟨[], [], [1, 2, 6, 8, 9, 10], [2, 6], none⟩), (5, ⟨[], [], [1, 2, 8, 9, 10, 17], [2], none⟩), (6, ⟨[], [], [1, 2, 8, 9, 10], [2], none⟩), (7, ⟨[], [], [1, 2], [2], none⟩)], kdL [], []⟩
set_option maxRecDepth 100000
noncomputable def laws_gLayouts_e0 (N : Nat) (d : Nat) (n : Nat) (v2 : Int) (v1 : Geo) (v5 : Int) : Option (HR [.bool]) :=
  loopN (advOf (laws_gLayouts_E N d) (codeAt (bodyOf Try.f45) [1, 0, 1, 0, 0])) (evC (laws_gLayouts_E N d) (codeAt (bodyOf Try.f45) [1, 0, 1, 0, 0])) n ⟨[(1, .pv (.int .i64) v2), (2, .ref 2 0), (8, .pv (.list .geo) v1.kids), (9, .pv (.int .i64) (v1.kids.length : Int)), (10, .pv (.int .i64) v5)], [(2, .box [.pv (.int .i64) v1.kind, .pv (.int .i64) v1.layout, .pv (.int .i64) v1.srid, .pv (.list .float) v1.flat, .pv (.list (.int .i64)) v1.ends, .pv (.list (.list (.int .i64))) v1.endss, .pv (.list .geo) v1.kids])], []⟩ (kBlock 0 (kSeq (advOf (laws_gLayouts_E N d) (codeAt (bodyOf Try.f45) [1, 1])) (evC (laws_gLayouts_E N d) (codeAt (bodyOf Try.f45) [1, 1])) (kEnd (laws_gLayouts_E N d) [] Try.f45.results.toList [.bool])))
theorem laws_gLayouts_t0 (N : Nat) (d : Nat) : ∀ (n : Nat) (v2 : Int) (v1 : Geo) (v5 : Int), laws_gLayouts_e0 N d n v2 v1 v5 = laws_gLayouts_l0 N (laws_gLayouts N d) n v2 v1 v5
  | 0, _, _, _ => rfl
  | n + 1, v2, v1, v5 => by
    have h : laws_gLayouts_e0 N d n v2 v1 = laws_gLayouts_l0 N (laws_gLayouts N d) n v2 v1 := by funext v5; exact laws_gLayouts_t0 N d n v2 v1 v5
    exact (show laws_gLayouts_e0 N d (n + 1) v2 v1 v5 = laws_gLayouts_g0 N (laws_gLayouts N d) v2 v1 (laws_gLayouts_e0 N d n v2 v1) v5 from by kernel_rfl).trans (by rw [h]; rfl)
theorem laws_gLayouts_t (N : Nat) (d : Nat) (v1 : Geo) (v2 : Int) : evF (laws_gLayouts_E N d) [] Try.f45 [.k .geo, .k (.int .i64)] [.bool] (v1, v2, ()) = laws_gLayouts N (d + 1) v1 v2 := by
  have h0 : (laws_gLayouts_e0 N d N) = (laws_gLayouts_l0 N (laws_gLayouts N d) N) := by funext v2 v1 v5; exact laws_gLayouts_t0 N d N v2 v1 v5
  exact (show evF (laws_gLayouts_E N d) [] Try.f45 [.k .geo, .k (.int .i64)] [.bool] (v1, v2, ()) = laws_gLayouts_g N (laws_gLayouts N d) v1 v2 (laws_gLayouts_e0 N d N) from by kernel_rfl).trans (by rw [h0]; rfl)
theorem laws_gLayouts_s' (N : Nat) : ∀ d, (laws_gLayouts_con' N d).Sound Try.prog
  | 0 => fun _ _ _ _ _ _ _ h => by cases h
  | d + 1 => Con.sound_of (c := laws_gLayouts_con' N (d + 1)) (E := (laws_gLayouts_E N d)) (idle := []) Try.func45 (by kernel_rfl) (by kernel_rfl) ⟨(allCons (laws_gLayouts_s' N d) allNil), allNil⟩ allNil (fun x y h => (laws_gLayouts_t N d x.1 x.2.1).trans h)
noncomputable def laws_gLayouts_con (N : Nat) : Con := laws_gLayouts_con' N N
theorem laws_gLayouts_s (N : Nat) : (laws_gLayouts_con N).Sound Try.prog := laws_gLayouts_s' N N
/-- pub-orthodrome/laws.gSmall -/
noncomputable def laws_gSmall_E (N : Nat) : Env := ⟨Try.prog, N, [spec_Weight_con N, laws_gLayouts_con N], [(0, ⟨[], [], [0], [], none⟩), (1, ⟨[], [], [0], [], none⟩), (2, ⟨[], [], [0, 3], [], none⟩), (3, ⟨[], [], [3, 6, 7, 8], [], none⟩), (4, ⟨[], [], [3, 6, 7, 8], [], none⟩), (5, ⟨[], [], [3, 5, 6, 7, 8], [5], none⟩), (6, ⟨[], [], [3, 5, 6, 7, 8], [5], none⟩), (7, ⟨[], [], [3, 6, 7, 8, 23], [], none⟩), (8, ⟨[], [], [3, 6, 7, 8], [], none⟩), (9, ⟨[], [], [], [], none⟩)], kdL [], []⟩
def laws_gSmall_g0 (N : Nat) (v1 : (List Geo)) (r0 : Int → Int → Option (Bool)) (v5 : Int) (v6 : Int) : Option (Bool) :=
  (bif (decide ((v6 : Int) < (v1.length : Int))) then ((nth v1 v6).bind fun v7 => ((spec_Weight N N (Geo.mk v7.kind v7.layout v7.srid v7.flat v7.ends v7.endss v7.kids) v5).bind fun v8 => (bif (decide (((IntKind.i64.wrap (v5 - v8)) : Int) < 0)) then (some false) else ((laws_gLayouts N N (Geo.mk v7.kind v7.layout v7.srid v7.flat v7.ends v7.endss v7.kids) 9).bind fun v9 => (bif (!v9) then (some false) else ((r0 (IntKind.i64.wrap (v5 - v8)) (IntKind.i64.wrap (v6 + 1))))))))) else (some true))
def laws_gSmall_l0 (N : Nat) : Nat → (List Geo) → Int → Int → Option (Bool)
  | 0, _, _, _ => none
  | n + 1, v1, v5, v6 => laws_gSmall_g0 N v1 (laws_gSmall_l0 N n v1) v5 v6
def laws_gSmall_g (N : Nat) (v1 : (List Geo)) (c0 : (List Geo) → Int → Int → Option (Bool)) : Option (Bool) :=
  ((c0 v1 2000 0))
def laws_gSmall (N : Nat) (v1 : (List Geo)) : Option (Bool) :=
  laws_gSmall_g N v1 (laws_gSmall_l0 N N)
set_option maxRecDepth 100000
noncomputable def laws_gSmall_e0 (N : Nat) (n : Nat) (v1 : (List Geo)) (v5 : Int) (v6 : Int) : Option (HR [.bool]) :=
  loopN (advOf (laws_gSmall_E N) (codeAt (bodyOf Try.f40) [1, 1, 0, 1, 0, 0])) (evC (laws_gSmall_E N) (codeAt (bodyOf Try.f40) [1, 1, 0, 1, 0, 0])) n ⟨[(3, .pv (.int .i64) v5), (6, .pv (.list .geo) v1), (7, .pv (.int .i64) (v1.length : Int)), (8, .pv (.int .i64) v6)], [], []⟩ (kBlock 0 (kSeq (advOf (laws_gSmall_E N) (codeAt (bodyOf Try.f40) [1, 1, 1])) (evC (laws_gSmall_E N) (codeAt (bodyOf Try.f40) [1, 1, 1])) (kEnd (laws_gSmall_E N) [] Try.f40.results.toList [.bool])))
theorem laws_gSmall_t0 (N : Nat) : ∀ (n : Nat) (v1 : (List Geo)) (v5 : Int) (v6 : Int), laws_gSmall_e0 N n v1 v5 v6 = laws_gSmall_l0 N n v1 v5 v6
  | 0, _, _, _ => rfl
  | n + 1, v1, v5, v6 => by
    have h : laws_gSmall_e0 N n v1 = laws_gSmall_l0 N n v1 := by funext v5 v6; exact laws_gSmall_t0 N n v1 v5 v6
    exact (show laws_gSmall_e0 N (n + 1) v1 v5 v6 = laws_gSmall_g0 N v1 (laws_gSmall_e0 N n v1) v5 v6 from by kernel_rfl).trans (by rw [h]; rfl)
theorem laws_gSmall_t (N : Nat) (v1 : (List Geo)) : evF (laws_gSmall_E N) [] Try.f40 [.k (.list .geo)] [.bool] (v1, ()) = laws_gSmall N v1 := by
  have h0 : (laws_gSmall_e0 N N) = (laws_gSmall_l0 N N) := by funext v1 v5 v6; exact laws_gSmall_t0 N N v1 v5 v6
  exact (show evF (laws_gSmall_E N) [] Try.f40 [.k (.list .geo)] [.bool] (v1, ()) = laws_gSmall_g N v1 (laws_gSmall_e0 N N) from by kernel_rfl).trans (by rw [h0]; rfl)
noncomputable def laws_gSmall_con (N : Nat) : Con := ⟨40, [.k (.list .geo)], [.bool], fun x => laws_gSmall N x.1⟩
theorem laws_gSmall_s (N : Nat) : (laws_gSmall_con N).Sound Try.prog :=
  Con.sound_of (c := laws_gSmall_con N) (E := (laws_gSmall_E N)) (idle := []) Try.func40 (by kernel_rfl) (by kernel_rfl) ⟨(allCons (spec_Weight_s N) (allCons (laws_gLayouts_s N) allNil)), allNil⟩ allNil (fun x y h => (laws_gSmall_t N x.1).trans h)
/-- pub-orthodrome/spec.Stride -/
noncomputable def spec_Stride_E (N : Nat) : Env := ⟨Try.prog, N, [], [(0, ⟨[], [], [0], [], none⟩), (1, ⟨[], [], [0], [], none⟩), (2, ⟨[], [], [0, 3], [], none⟩), (4, ⟨[], [], [0, 6], [], none⟩), (6, ⟨[], [], [0, 9], [], none⟩), (7, ⟨[], [], [0], [], none⟩)], kdL [], []⟩
def spec_Stride_g (N : Nat) (v1 : Int) : Option (Int) :=
  (bif (decide ((v1 : Int) < 1)) then (some 0) else (bif (v1 == 1) then (some 2) else (bif (v1 == 2) then (some 3) else (bif (v1 == 3) then (some 3) else (some v1)))))
def spec_Stride (N : Nat) (v1 : Int) : Option (Int) :=
  spec_Stride_g N v1
set_option maxRecDepth 100000
theorem spec_Stride_t (N : Nat) (v1 : Int) : evF (spec_Stride_E N) [] Try.f12 [.k (.int .i64)] [(.int .i64)] (v1, ()) = spec_Stride N v1 := by
  exact (show evF (spec_Stride_E N) [] Try.f12 [.k (.int .i64)] [(.int .i64)] (v1, ()) = spec_Stride_g N v1 from by kernel_rfl).trans (by rfl)
noncomputable def spec_Stride_con (N : Nat) : Con := ⟨12, [.k (.int .i64)], [(.int .i64)], fun x => spec_Stride N x.1⟩
theorem spec_Stride_s (N : Nat) : (spec_Stride_con N).Sound Try.prog :=
  Con.sound_of (c := spec_Stride_con N) (E := (spec_Stride_E N)) (idle := []) Try.func12 (by kernel_rfl) (by kernel_rfl) ⟨allNil, allNil⟩ allNil (fun x y h => (spec_Stride_t N x.1).trans h)
/-- pub-orthodrome/spec.Cover -/
noncomputable def spec_Cover_E (N : Nat) : Env := ⟨Try.prog, N, [], [(0, ⟨[], [], [0, 1], [], none⟩), (1, ⟨[], [], [0, 1], [], none⟩), (2, ⟨[], [], [0, 1, 18], [], some N⟩), (3, ⟨[], [], [0, 1], [], some N⟩)], kdL [], []⟩
def spec_Cover_g2 (N : Nat) (v1 : Int) (v2 : Int) : Option (Int) :=
  (some (imm true v1 v2))
def spec_Cover_j2 (N : Nat) (v1 : Int) (v2 : Int) : Option (Int) :=
  gate N (spec_Cover_g2 N v1 v2)
def spec_Cover_g0 (N : Nat) (v1 : Int) (v2 : Int) (c2 : Int → Int → Option (Int)) : Option (Int) :=
  bif (v2 == 2) then (some 4) else (c2 v1 v2)
def spec_Cover_j0 (N : Nat) (v1 : Int) (v2 : Int) : Option (Int) :=
  gate N (spec_Cover_g0 N v1 v2 (spec_Cover_j2 N))
def spec_Cover_g1 (N : Nat) (v1 : Int) (v2 : Int) (c2 : Int → Int → Option (Int)) : Option (Int) :=
  (c2 v1 v2)
def spec_Cover_j1 (N : Nat) (v1 : Int) (v2 : Int) : Option (Int) :=
  gate N (spec_Cover_g1 N v1 v2 (spec_Cover_j2 N))
def spec_Cover_g (N : Nat) (v1 : Int) (v2 : Int) (c0 : Int → Int → Option (Int)) (c1 : Int → Int → Option (Int)) : Option (Int) :=
  (bif (v1 == 2) then (bif (v2 == 3) then (gate N (some 4)) else (bif (v1 == 3) then (c0 v1 v2) else (c1 v1 v2))) else (bif (v1 == 3) then (c0 v1 v2) else (c1 v1 v2)))
def spec_Cover (N : Nat) (v1 : Int) (v2 : Int) : Option (Int) :=
  spec_Cover_g N v1 v2 (spec_Cover_j0 N) (spec_Cover_j1 N)
set_option maxRecDepth 100000
noncomputable def spec_Cover_e2 (N : Nat) (v1 : Int) (v2 : Int) : Option (HR [(.int .i64)]) :=
  gate N (evC (spec_Cover_E N) (codeAt (bodyOf Try.f50) [1, 1]) ⟨[(0, .pv (.int .i64) v1), (1, .pv (.int .i64) v2)], [], []⟩ (kEnd (spec_Cover_E N) [] Try.f50.results.toList [(.int .i64)]))
noncomputable def spec_Cover_e0 (N : Nat) (v1 : Int) (v2 : Int) : Option (HR [(.int .i64)]) :=
  gate N (evC (spec_Cover_E N) (codeAt (bodyOf Try.f50) [1, 0, 1]) ⟨[(0, .pv (.int .i64) v1), (1, .pv (.int .i64) v2), (18, .pv .bool (v2 == 2))], [], []⟩ (kSeq (advOf (spec_Cover_E N) (codeAt (bodyOf Try.f50) [1, 1])) (evC (spec_Cover_E N) (codeAt (bodyOf Try.f50) [1, 1])) (kEnd (spec_Cover_E N) [] Try.f50.results.toList [(.int .i64)])))
noncomputable def spec_Cover_e1 (N : Nat) (v1 : Int) (v2 : Int) : Option (HR [(.int .i64)]) :=
  gate N (evC (spec_Cover_E N) (codeAt (bodyOf Try.f50) [1, 0, 1]) ⟨[(0, .pv (.int .i64) v1), (1, .pv (.int .i64) v2), (18, .pv .bool false)], [], []⟩ (kSeq (advOf (spec_Cover_E N) (codeAt (bodyOf Try.f50) [1, 1])) (evC (spec_Cover_E N) (codeAt (bodyOf Try.f50) [1, 1])) (kEnd (spec_Cover_E N) [] Try.f50.results.toList [(.int .i64)])))
theorem spec_Cover_t2 (N : Nat) (v1 : Int) (v2 : Int) : spec_Cover_e2 N v1 v2 = spec_Cover_j2 N v1 v2 := by
  exact (congrArg (gate N) (show evC (spec_Cover_E N) (codeAt (bodyOf Try.f50) [1, 1]) ⟨[(0, .pv (.int .i64) v1), (1, .pv (.int .i64) v2)], [], []⟩ (kEnd (spec_Cover_E N) [] Try.f50.results.toList [(.int .i64)]) = spec_Cover_g2 N v1 v2 from by kernel_rfl)).trans (by rfl)
theorem spec_Cover_t0 (N : Nat) (v1 : Int) (v2 : Int) : spec_Cover_e0 N v1 v2 = spec_Cover_j0 N v1 v2 := by
  have h2 : (spec_Cover_e2 N) = (spec_Cover_j2 N) := by funext v1 v2; exact spec_Cover_t2 N v1 v2
  exact (congrArg (gate N) (show evC (spec_Cover_E N) (codeAt (bodyOf Try.f50) [1, 0, 1]) ⟨[(0, .pv (.int .i64) v1), (1, .pv (.int .i64) v2), (18, .pv .bool (v2 == 2))], [], []⟩ (kSeq (advOf (spec_Cover_E N) (codeAt (bodyOf Try.f50) [1, 1])) (evC (spec_Cover_E N) (codeAt (bodyOf Try.f50) [1, 1])) (kEnd (spec_Cover_E N) [] Try.f50.results.toList [(.int .i64)])) = spec_Cover_g0 N v1 v2 (spec_Cover_e2 N) from by kernel_rfl)).trans (by rw [h2]; rfl)
theorem spec_Cover_t1 (N : Nat) (v1 : Int) (v2 : Int) : spec_Cover_e1 N v1 v2 = spec_Cover_j1 N v1 v2 := by
  have h2 : (spec_Cover_e2 N) = (spec_Cover_j2 N) := by funext v1 v2; exact spec_Cover_t2 N v1 v2
  exact (congrArg (gate N) (show evC (spec_Cover_E N) (codeAt (bodyOf Try.f50) [1, 0, 1]) ⟨[(0, .pv (.int .i64) v1), (1, .pv (.int .i64) v2), (18, .pv .bool false)], [], []⟩ (kSeq (advOf (spec_Cover_E N) (codeAt (bodyOf Try.f50) [1, 1])) (evC (spec_Cover_E N) (codeAt (bodyOf Try.f50) [1, 1])) (kEnd (spec_Cover_E N) [] Try.f50.results.toList [(.int .i64)])) = spec_Cover_g1 N v1 v2 (spec_Cover_e2 N) from by kernel_rfl)).trans (by rw [h2]; rfl)
theorem spec_Cover_t (N : Nat) (v1 : Int) (v2 : Int) : evF (spec_Cover_E N) [] Try.f50 [.k (.int .i64), .k (.int .i64)] [(.int .i64)] (v1, v2, ()) = spec_Cover N v1 v2 := by
  have h0 : (spec_Cover_e0 N) = (spec_Cover_j0 N) := by funext v1 v2; exact spec_Cover_t0 N v1 v2
  have h1 : (spec_Cover_e1 N) = (spec_Cover_j1 N) := by funext v1 v2; exact spec_Cover_t1 N v1 v2
  exact (show evF (spec_Cover_E N) [] Try.f50 [.k (.int .i64), .k (.int .i64)] [(.int .i64)] (v1, v2, ()) = spec_Cover_g N v1 v2 (spec_Cover_e0 N) (spec_Cover_e1 N) from by kernel_rfl).trans (by rw [h0, h1]; rfl)
noncomputable def spec_Cover_con (N : Nat) : Con := ⟨50, [.k (.int .i64), .k (.int .i64)], [(.int .i64)], fun x => spec_Cover N x.1 x.2.1⟩
theorem spec_Cover_s (N : Nat) : (spec_Cover_con N).Sound Try.prog :=
  Con.sound_of (c := spec_Cover_con N) (E := (spec_Cover_E N)) (idle := []) Try.func50 (by kernel_rfl) (by kernel_rfl) ⟨allNil, allNil⟩ allNil (fun x y h => (spec_Cover_t N x.1 x.2.1).trans h)
/-- pub-orthodrome/spec.LayoutOf -/
def spec_LayoutOf_g0 (N : Nat) (self : Geo → Option (Int)) (v1 : Geo) (r0 : Int → Int → Option (Int)) (v5 : Int) (v6 : Int) : Option (Int) :=
  (bif (decide ((v6 : Int) < (v1.kids.length : Int))) then ((nth v1.kids v6).bind fun v7 => ((self (Geo.mk v7.kind v7.layout v7.srid v7.flat v7.ends v7.endss v7.kids)).bind fun v8 => (spec_Cover N v5 v8).bind fun v9 => ((r0 v9 (IntKind.i64.wrap (v6 + 1)))))) else (some v5))
def spec_LayoutOf_l0 (N : Nat) (self : Geo → Option (Int)) : Nat → Geo → Int → Int → Option (Int)
  | 0, _, _, _ => none
  | n + 1, v1, v5, v6 => spec_LayoutOf_g0 N self v1 (spec_LayoutOf_l0 N self n v1) v5 v6
def spec_LayoutOf_g (N : Nat) (self : Geo → Option (Int)) (v1 : Geo) (c0 : Geo → Int → Int → Option (Int)) : Option (Int) :=
  (bif (v1.kind != 7) then (some v1.layout) else (bif (v1.layout != 0) then (some v1.layout) else ((c0 v1 v1.layout 0))))
def spec_LayoutOf (N : Nat) : Nat → Geo → Option (Int)
  | 0, _ => none
  | d + 1, v1 => spec_LayoutOf_g N (spec_LayoutOf N d) v1 (spec_LayoutOf_l0 N (spec_LayoutOf N d) N)
noncomputable def spec_LayoutOf_con' (N : Nat) (d : Nat) : Con := ⟨46, [.k .geo], [(.int .i64)], fun x => spec_LayoutOf N d x.1⟩
noncomputable def spec_LayoutOf_E (N : Nat) (d : Nat) : Env := ⟨Try.prog, N, [spec_LayoutOf_con' N d, spec_Cover_con N], [(0, ⟨[], [], [0], [], none⟩), (1, ⟨[], [], [1], [1], none⟩), (2, ⟨[], [], [1, 3], [1], none⟩), (3, ⟨[], [], [1, 3, 14], [1], none⟩), (4, ⟨[], [], [1, 3], [1], none⟩), (5, ⟨[], [], [3, 17, 18, 19], [], none⟩), (6, ⟨[], [], [3, 17, 18, 19], [], none⟩), (7, ⟨[], [], [3, 5, 17, 18, 19], [5], none⟩), (8, ⟨[], [], [3, 17, 18, 19], [], none⟩), (9, ⟨[], [], [3], [], none⟩)], kdL [], []⟩
set_option maxRecDepth 100000
noncomputable def spec_LayoutOf_e0 (N : Nat) (d : Nat) (n : Nat) (v1 : Geo) (v5 : Int) (v6 : Int) : Option (HR [(.int .i64)]) :=
  loopN (advOf (spec_LayoutOf_E N d) (codeAt (bodyOf Try.f46) [1, 1, 1, 0, 1, 0, 0])) (evC (spec_LayoutOf_E N d) (codeAt (bodyOf Try.f46) [1, 1, 1, 0, 1, 0, 0])) n ⟨[(3, .pv (.int .i64) v5), (17, .pv (.list .geo) v1.kids), (18, .pv (.int .i64) (v1.kids.length : Int)), (19, .pv (.int .i64) v6)], [], []⟩ (kBlock 0 (kSeq (advOf (spec_LayoutOf_E N d) (codeAt (bodyOf Try.f46) [1, 1, 1, 1])) (evC (spec_LayoutOf_E N d) (codeAt (bodyOf Try.f46) [1, 1, 1, 1])) (kEnd (spec_LayoutOf_E N d) [] Try.f46.results.toList [(.int .i64)])))
theorem spec_LayoutOf_t0 (N : Nat) (d : Nat) : ∀ (n : Nat) (v1 : Geo) (v5 : Int) (v6 : Int), spec_LayoutOf_e0 N d n v1 v5 v6 = spec_LayoutOf_l0 N (spec_LayoutOf N d) n v1 v5 v6
  | 0, _, _, _ => rfl
  | n + 1, v1, v5, v6 => by
    have h : spec_LayoutOf_e0 N d n v1 = spec_LayoutOf_l0 N (spec_LayoutOf N d) n v1 := by funext v5 v6; exact spec_LayoutOf_t0 N d n v1 v5 v6
    exact (show spec_LayoutOf_e0 N d (n + 1) v1 v5 v6 = spec_LayoutOf_g0 N (spec_LayoutOf N d) v1 (spec_LayoutOf_e0 N d n v1) v5 v6 from by kernel_rfl).trans (by rw [h]; rfl)
theorem spec_LayoutOf_t (N : Nat) (d : Nat) (v1 : Geo) : evF (spec_LayoutOf_E N d) [] Try.f46 [.k .geo] [(.int .i64)] (v1, ()) = spec_LayoutOf N (d + 1) v1 := by
  have h0 : (spec_LayoutOf_e0 N d N) = (spec_LayoutOf_l0 N (spec_LayoutOf N d) N) := by funext v1 v5 v6; exact spec_LayoutOf_t0 N d N v1 v5 v6
  exact (show evF (spec_LayoutOf_E N d) [] Try.f46 [.k .geo] [(.int .i64)] (v1, ()) = spec_LayoutOf_g N (spec_LayoutOf N d) v1 (spec_LayoutOf_e0 N d N) from by kernel_rfl).trans (by rw [h0]; rfl)
theorem spec_LayoutOf_s' (N : Nat) : ∀ d, (spec_LayoutOf_con' N d).Sound Try.prog
  | 0 => fun _ _ _ _ _ _ _ h => by cases h
  | d + 1 => Con.sound_of (c := spec_LayoutOf_con' N (d + 1)) (E := (spec_LayoutOf_E N d)) (idle := []) Try.func46 (by kernel_rfl) (by kernel_rfl) ⟨(allCons (spec_LayoutOf_s' N d) (allCons (spec_Cover_s N) allNil)), allNil⟩ allNil (fun x y h => (spec_LayoutOf_t N d x.1).trans h)
noncomputable def spec_LayoutOf_con (N : Nat) : Con := spec_LayoutOf_con' N N
theorem spec_LayoutOf_s (N : Nat) : (spec_LayoutOf_con N).Sound Try.prog := spec_LayoutOf_s' N N
/-- pub-orthodrome/spec.goodEnds -/
noncomputable def spec_goodEnds_E (N : Nat) : Env := ⟨Try.prog, N, [], [(0, ⟨[], [], [0, 1, 2, 3], [], none⟩), (1, ⟨[], [], [0, 1, 2, 3], [], none⟩), (2, ⟨[], [], [1, 2, 3, 12, 13, 14], [], none⟩), (3, ⟨[], [], [1, 2, 3, 12, 13, 14], [], none⟩), (4, ⟨[], [], [1, 2, 3, 11, 12, 13, 14], [], none⟩), (5, ⟨[], [], [1, 2, 3, 11, 12, 13, 14, 38], [], some N⟩), (6, ⟨[], [], [2, 3, 11, 12, 13, 14], [], some N⟩), (7, ⟨[], [], [1, 2, 3, 12, 13, 14], [], none⟩), (8, ⟨[], [], [1], [], none⟩)], kdL [], []⟩
def spec_goodEnds_g1 (N : Nat) (v3 : Int) (v4 : Bool) (v1 : (List Int)) (v6 : Int) (v8 : Int) (v7 : Int) (r0 : Int → Int → Option (Int × Bool)) : Option (Int × Bool) :=
  (some (v6, false))
def spec_goodEnds_j1 (N : Nat) (r0 : Int → Int → Option (Int × Bool)) (v3 : Int) (v4 : Bool) (v1 : (List Int)) (v6 : Int) (v8 : Int) (v7 : Int) : Option (Int × Bool) :=
  gate N (spec_goodEnds_g1 N v3 v4 v1 v6 v8 v7 r0)
def spec_goodEnds_g2 (N : Nat) (v3 : Int) (v4 : Bool) (v1 : (List Int)) (v8 : Int) (v7 : Int) (r0 : Int → Int → Option (Int × Bool)) : Option (Int × Bool) :=
  ((r0 v8 (IntKind.i64.wrap (v7 + 1))))
def spec_goodEnds_j2 (N : Nat) (r0 : Int → Int → Option (Int × Bool)) (v3 : Int) (v4 : Bool) (v1 : (List Int)) (v8 : Int) (v7 : Int) : Option (Int × Bool) :=
  gate N (spec_goodEnds_g2 N v3 v4 v1 v8 v7 r0)
def spec_goodEnds_g0 (N : Nat) (v3 : Int) (v4 : Bool) (v1 : (List Int)) (c1 : Int → Int → Int → Option (Int × Bool)) (c2 : Int → Int → Option (Int × Bool)) (r0 : Int → Int → Option (Int × Bool)) (v6 : Int) (v7 : Int) : Option (Int × Bool) :=
  (bif (decide ((v7 : Int) < (v1.length : Int))) then ((nth v1 v7).bind fun v8 => (bif (decide ((v8 : Int) < v6)) then (c1 v6 v8 v7) else (if v3 = 0 then none else bif ((Int.tmod (IntKind.i64.wrap (v8 - v6)) v3) != 0) then (c1 v6 v8 v7) else (bif v4 then (gate N (bif (decide (((IntKind.i64.wrap (v8 - v6)) : Int) > v3)) then (some (v6, false)) else (c2 v8 v7))) else (gate N (c2 v8 v7)))))) else (some (v6, true)))
def spec_goodEnds_l0 (N : Nat) : Nat → Int → Bool → (List Int) → Int → Int → Option (Int × Bool)
  | 0, _, _, _, _, _ => none
  | n + 1, v3, v4, v1, v6, v7 => spec_goodEnds_g0 N v3 v4 v1 (spec_goodEnds_j1 N (spec_goodEnds_l0 N n v3 v4 v1) v3 v4 v1) (spec_goodEnds_j2 N (spec_goodEnds_l0 N n v3 v4 v1) v3 v4 v1) (spec_goodEnds_l0 N n v3 v4 v1) v6 v7
def spec_goodEnds_g (N : Nat) (v1 : (List Int)) (v2 : Int) (v3 : Int) (v4 : Bool) (c0 : Int → Bool → (List Int) → Int → Int → Option (Int × Bool)) : Option (Int × Bool) :=
  ((c0 v3 v4 v1 v2 0))
def spec_goodEnds (N : Nat) (v1 : (List Int)) (v2 : Int) (v3 : Int) (v4 : Bool) : Option (Int × Bool) :=
  spec_goodEnds_g N v1 v2 v3 v4 (spec_goodEnds_l0 N N)
set_option maxRecDepth 100000
noncomputable def spec_goodEnds_e1 (N : Nat) (m0 : Nat) (v3 : Int) (v4 : Bool) (v1 : (List Int)) (v6 : Int) (v8 : Int) (v7 : Int) : Option (HR [(.int .i64), .bool]) :=
  gate N (evC (spec_goodEnds_E N) (codeAt (bodyOf Try.f47) [1, 0, 1, 0, 0, 1, 1, 0, 0, 1, 0, 1]) ⟨[(1, .pv (.int .i64) v6), (2, .pv (.int .i64) v3), (3, .pv .bool v4), (11, .pv (.int .i64) v8), (12, .pv (.list (.int .i64)) v1), (13, .pv (.int .i64) (v1.length : Int)), (14, .pv (.int .i64) v7), (38, .pv .bool true)], [], []⟩ (kSeq (advOf (spec_goodEnds_E N) (codeAt (bodyOf Try.f47) [1, 0, 1, 0, 0, 1, 1, 0, 0, 1, 1])) (evC (spec_goodEnds_E N) (codeAt (bodyOf Try.f47) [1, 0, 1, 0, 0, 1, 1, 0, 0, 1, 1])) (kBlock 1 (kSeq (advOf (spec_goodEnds_E N) (codeAt (bodyOf Try.f47) [1, 0, 1, 0, 0, 1, 1, 1])) (evC (spec_goodEnds_E N) (codeAt (bodyOf Try.f47) [1, 0, 1, 0, 0, 1, 1, 1])) (kSeq (advOf (spec_goodEnds_E N) (codeAt (bodyOf Try.f47) [1, 0, 1, 0, 0])) (fun st K => loopN (advOf (spec_goodEnds_E N) (codeAt (bodyOf Try.f47) [1, 0, 1, 0, 0])) (evC (spec_goodEnds_E N) (codeAt (bodyOf Try.f47) [1, 0, 1, 0, 0])) m0 st K) (kBlock 0 (kSeq (advOf (spec_goodEnds_E N) (codeAt (bodyOf Try.f47) [1, 1])) (evC (spec_goodEnds_E N) (codeAt (bodyOf Try.f47) [1, 1])) (kEnd (spec_goodEnds_E N) [] Try.f47.results.toList [(.int .i64), .bool]))))))))
noncomputable def spec_goodEnds_e2 (N : Nat) (m0 : Nat) (v3 : Int) (v4 : Bool) (v1 : (List Int)) (v8 : Int) (v7 : Int) : Option (HR [(.int .i64), .bool]) :=
  gate N (evC (spec_goodEnds_E N) (codeAt (bodyOf Try.f47) [1, 0, 1, 0, 0, 1, 1, 0, 0, 1, 1]) ⟨[(2, .pv (.int .i64) v3), (3, .pv .bool v4), (11, .pv (.int .i64) v8), (12, .pv (.list (.int .i64)) v1), (13, .pv (.int .i64) (v1.length : Int)), (14, .pv (.int .i64) v7)], [], []⟩ (kBlock 1 (kSeq (advOf (spec_goodEnds_E N) (codeAt (bodyOf Try.f47) [1, 0, 1, 0, 0, 1, 1, 1])) (evC (spec_goodEnds_E N) (codeAt (bodyOf Try.f47) [1, 0, 1, 0, 0, 1, 1, 1])) (kSeq (advOf (spec_goodEnds_E N) (codeAt (bodyOf Try.f47) [1, 0, 1, 0, 0])) (fun st K => loopN (advOf (spec_goodEnds_E N) (codeAt (bodyOf Try.f47) [1, 0, 1, 0, 0])) (evC (spec_goodEnds_E N) (codeAt (bodyOf Try.f47) [1, 0, 1, 0, 0])) m0 st K) (kBlock 0 (kSeq (advOf (spec_goodEnds_E N) (codeAt (bodyOf Try.f47) [1, 1])) (evC (spec_goodEnds_E N) (codeAt (bodyOf Try.f47) [1, 1])) (kEnd (spec_goodEnds_E N) [] Try.f47.results.toList [(.int .i64), .bool])))))))
noncomputable def spec_goodEnds_e0 (N : Nat) (n : Nat) (v3 : Int) (v4 : Bool) (v1 : (List Int)) (v6 : Int) (v7 : Int) : Option (HR [(.int .i64), .bool]) :=
  loopN (advOf (spec_goodEnds_E N) (codeAt (bodyOf Try.f47) [1, 0, 1, 0, 0])) (evC (spec_goodEnds_E N) (codeAt (bodyOf Try.f47) [1, 0, 1, 0, 0])) n ⟨[(1, .pv (.int .i64) v6), (2, .pv (.int .i64) v3), (3, .pv .bool v4), (12, .pv (.list (.int .i64)) v1), (13, .pv (.int .i64) (v1.length : Int)), (14, .pv (.int .i64) v7)], [], []⟩ (kBlock 0 (kSeq (advOf (spec_goodEnds_E N) (codeAt (bodyOf Try.f47) [1, 1])) (evC (spec_goodEnds_E N) (codeAt (bodyOf Try.f47) [1, 1])) (kEnd (spec_goodEnds_E N) [] Try.f47.results.toList [(.int .i64), .bool])))
theorem spec_goodEnds_t1 (N : Nat) (m0 : Nat) (v3 : Int) (v4 : Bool) (v1 : (List Int)) (v6 : Int) (v8 : Int) (v7 : Int) : spec_goodEnds_e1 N m0 v3 v4 v1 v6 v8 v7 = spec_goodEnds_j1 N (spec_goodEnds_e0 N m0 v3 v4 v1) v3 v4 v1 v6 v8 v7 := by
  exact (congrArg (gate N) (show evC (spec_goodEnds_E N) (codeAt (bodyOf Try.f47) [1, 0, 1, 0, 0, 1, 1, 0, 0, 1, 0, 1]) ⟨[(1, .pv (.int .i64) v6), (2, .pv (.int .i64) v3), (3, .pv .bool v4), (11, .pv (.int .i64) v8), (12, .pv (.list (.int .i64)) v1), (13, .pv (.int .i64) (v1.length : Int)), (14, .pv (.int .i64) v7), (38, .pv .bool true)], [], []⟩ (kSeq (advOf (spec_goodEnds_E N) (codeAt (bodyOf Try.f47) [1, 0, 1, 0, 0, 1, 1, 0, 0, 1, 1])) (evC (spec_goodEnds_E N) (codeAt (bodyOf Try.f47) [1, 0, 1, 0, 0, 1, 1, 0, 0, 1, 1])) (kBlock 1 (kSeq (advOf (spec_goodEnds_E N) (codeAt (bodyOf Try.f47) [1, 0, 1, 0, 0, 1, 1, 1])) (evC (spec_goodEnds_E N) (codeAt (bodyOf Try.f47) [1, 0, 1, 0, 0, 1, 1, 1])) (kSeq (advOf (spec_goodEnds_E N) (codeAt (bodyOf Try.f47) [1, 0, 1, 0, 0])) (fun st K => loopN (advOf (spec_goodEnds_E N) (codeAt (bodyOf Try.f47) [1, 0, 1, 0, 0])) (evC (spec_goodEnds_E N) (codeAt (bodyOf Try.f47) [1, 0, 1, 0, 0])) m0 st K) (kBlock 0 (kSeq (advOf (spec_goodEnds_E N) (codeAt (bodyOf Try.f47) [1, 1])) (evC (spec_goodEnds_E N) (codeAt (bodyOf Try.f47) [1, 1])) (kEnd (spec_goodEnds_E N) [] Try.f47.results.toList [(.int .i64), .bool]))))))) = spec_goodEnds_g1 N v3 v4 v1 v6 v8 v7 (spec_goodEnds_e0 N m0 v3 v4 v1) from by kernel_rfl)).trans (by rfl)
theorem spec_goodEnds_t2 (N : Nat) (m0 : Nat) (v3 : Int) (v4 : Bool) (v1 : (List Int)) (v8 : Int) (v7 : Int) : spec_goodEnds_e2 N m0 v3 v4 v1 v8 v7 = spec_goodEnds_j2 N (spec_goodEnds_e0 N m0 v3 v4 v1) v3 v4 v1 v8 v7 := by
  exact (congrArg (gate N) (show evC (spec_goodEnds_E N) (codeAt (bodyOf Try.f47) [1, 0, 1, 0, 0, 1, 1, 0, 0, 1, 1]) ⟨[(2, .pv (.int .i64) v3), (3, .pv .bool v4), (11, .pv (.int .i64) v8), (12, .pv (.list (.int .i64)) v1), (13, .pv (.int .i64) (v1.length : Int)), (14, .pv (.int .i64) v7)], [], []⟩ (kBlock 1 (kSeq (advOf (spec_goodEnds_E N) (codeAt (bodyOf Try.f47) [1, 0, 1, 0, 0, 1, 1, 1])) (evC (spec_goodEnds_E N) (codeAt (bodyOf Try.f47) [1, 0, 1, 0, 0, 1, 1, 1])) (kSeq (advOf (spec_goodEnds_E N) (codeAt (bodyOf Try.f47) [1, 0, 1, 0, 0])) (fun st K => loopN (advOf (spec_goodEnds_E N) (codeAt (bodyOf Try.f47) [1, 0, 1, 0, 0])) (evC (spec_goodEnds_E N) (codeAt (bodyOf Try.f47) [1, 0, 1, 0, 0])) m0 st K) (kBlock 0 (kSeq (advOf (spec_goodEnds_E N) (codeAt (bodyOf Try.f47) [1, 1])) (evC (spec_goodEnds_E N) (codeAt (bodyOf Try.f47) [1, 1])) (kEnd (spec_goodEnds_E N) [] Try.f47.results.toList [(.int .i64), .bool])))))) = spec_goodEnds_g2 N v3 v4 v1 v8 v7 (spec_goodEnds_e0 N m0 v3 v4 v1) from by kernel_rfl)).trans (by rfl)
theorem spec_goodEnds_t0 (N : Nat) : ∀ (n : Nat) (v3 : Int) (v4 : Bool) (v1 : (List Int)) (v6 : Int) (v7 : Int), spec_goodEnds_e0 N n v3 v4 v1 v6 v7 = spec_goodEnds_l0 N n v3 v4 v1 v6 v7
  | 0, _, _, _, _, _ => rfl
  | n + 1, v3, v4, v1, v6, v7 => by
    have h1 : (spec_goodEnds_e1 N n v3 v4 v1) = (spec_goodEnds_j1 N (spec_goodEnds_e0 N n v3 v4 v1) v3 v4 v1) := by funext v6 v8 v7; exact spec_goodEnds_t1 N n v3 v4 v1 v6 v8 v7
    have h2 : (spec_goodEnds_e2 N n v3 v4 v1) = (spec_goodEnds_j2 N (spec_goodEnds_e0 N n v3 v4 v1) v3 v4 v1) := by funext v8 v7; exact spec_goodEnds_t2 N n v3 v4 v1 v8 v7
    have h : spec_goodEnds_e0 N n v3 v4 v1 = spec_goodEnds_l0 N n v3 v4 v1 := by funext v6 v7; exact spec_goodEnds_t0 N n v3 v4 v1 v6 v7
    exact (show spec_goodEnds_e0 N (n + 1) v3 v4 v1 v6 v7 = spec_goodEnds_g0 N v3 v4 v1 (spec_goodEnds_e1 N n v3 v4 v1) (spec_goodEnds_e2 N n v3 v4 v1) (spec_goodEnds_e0 N n v3 v4 v1) v6 v7 from by kernel_rfl).trans (by rw [h1, h2, h]; rfl)
theorem spec_goodEnds_t (N : Nat) (v1 : (List Int)) (v2 : Int) (v3 : Int) (v4 : Bool) : evF (spec_goodEnds_E N) [] Try.f47 [.k (.list (.int .i64)), .k (.int .i64), .k (.int .i64), .k .bool] [(.int .i64), .bool] (v1, v2, v3, v4, ()) = spec_goodEnds N v1 v2 v3 v4 := by
  have h0 : (spec_goodEnds_e0 N N) = (spec_goodEnds_l0 N N) := by funext v3 v4 v1 v6 v7; exact spec_goodEnds_t0 N N v3 v4 v1 v6 v7
  exact (show evF (spec_goodEnds_E N) [] Try.f47 [.k (.list (.int .i64)), .k (.int .i64), .k (.int .i64), .k .bool] [(.int .i64), .bool] (v1, v2, v3, v4, ()) = spec_goodEnds_g N v1 v2 v3 v4 (spec_goodEnds_e0 N N) from by kernel_rfl).trans (by rw [h0]; rfl)
noncomputable def spec_goodEnds_con (N : Nat) : Con := ⟨47, [.k (.list (.int .i64)), .k (.int .i64), .k (.int .i64), .k .bool], [(.int .i64), .bool], fun x => spec_goodEnds N x.1 x.2.1 x.2.2.1 x.2.2.2.1⟩
theorem spec_goodEnds_s (N : Nat) : (spec_goodEnds_con N).Sound Try.prog :=
  Con.sound_of (c := spec_goodEnds_con N) (E := (spec_goodEnds_E N)) (idle := []) Try.func47 (by kernel_rfl) (by kernel_rfl) ⟨allNil, allNil⟩ allNil (fun x y h => (spec_goodEnds_t N x.1 x.2.1 x.2.2.1 x.2.2.2.1).trans h)
/-- pub-orthodrome/spec.Good -/
def spec_Good_g1 (N : Nat) (self : Geo → Option (Bool)) (v1 : Geo) (v6 : Int) (r0 : Int → Option (Bool)) : Option (Bool) :=
  (r0 (IntKind.i64.wrap (v6 + 1)))
def spec_Good_j1 (N : Nat) (self : Geo → Option (Bool)) (r0 : Int → Option (Bool)) (v1 : Geo) (v6 : Int) : Option (Bool) :=
  gate N (spec_Good_g1 N self v1 v6 r0)
def spec_Good_g0 (N : Nat) (self : Geo → Option (Bool)) (v1 : Geo) (c1 : Int → Option (Bool)) (r0 : Int → Option (Bool)) (v6 : Int) : Option (Bool) :=
  (bif (decide ((v6 : Int) < (v1.kids.length : Int))) then ((nth v1.kids v6).bind fun v7 => ((self (Geo.mk v7.kind v7.layout v7.srid v7.flat v7.ends v7.endss v7.kids)).bind fun v8 => bif (!v8) then (some false) else (bif (v1.layout != 0) then ((spec_LayoutOf N N (Geo.mk v7.kind v7.layout v7.srid v7.flat v7.ends v7.endss v7.kids)).bind fun v9 => (bif (v9 != v1.layout) then (some false) else (c1 v6))) else (c1 v6)))) else (bif (decide ((v1.layout : Int) ≥ 0)) then (some ((IntKind.i64.wrap ((IntKind.i64.wrap ((v1.flat.length : Int) + (v1.ends.length : Int))) + (v1.endss.length : Int))) == 0)) else (some false)))
def spec_Good_l0 (N : Nat) (self : Geo → Option (Bool)) : Nat → Geo → Int → Option (Bool)
  | 0, _, _ => none
  | n + 1, v1, v6 => spec_Good_g0 N self v1 (spec_Good_j1 N self (spec_Good_l0 N self n v1) v1) (spec_Good_l0 N self n v1) v6
def spec_Good_g2 (N : Nat) (self : Geo → Option (Bool)) (v2 : Int) (v1 : Geo) : Option (Bool) :=
  (some false)
def spec_Good_j2 (N : Nat) (self : Geo → Option (Bool)) (v2 : Int) (v1 : Geo) : Option (Bool) :=
  gate N (spec_Good_g2 N self v2 v1)
def spec_Good_g7 (N : Nat) (self : Geo → Option (Bool)) (v2 : Int) (v1 : Geo) (v19 : (Int × Bool)) (v17 : Int) (r6 : Int → Bool → Int → Option (Bool)) (v20 : Bool) : Option (Bool) :=
  (r6 v19.1 v20 (IntKind.i64.wrap (v17 + 1)))
def spec_Good_j7 (N : Nat) (self : Geo → Option (Bool)) (r6 : Int → Bool → Int → Option (Bool)) (v2 : Int) (v1 : Geo) (v19 : (Int × Bool)) (v17 : Int) (v20 : Bool) : Option (Bool) :=
  gate N (spec_Good_g7 N self v2 v1 v19 v17 r6 v20)
def spec_Good_g6 (N : Nat) (self : Geo → Option (Bool)) (v2 : Int) (v1 : Geo) (c7 : (Int × Bool) → Int → Bool → Option (Bool)) (r6 : Int → Bool → Int → Option (Bool)) (v15 : Int) (v16 : Bool) (v17 : Int) : Option (Bool) :=
  (bif (decide ((v17 : Int) < (v1.endss.length : Int))) then ((nth v1.endss v17).bind fun v18 => ((spec_goodEnds N v18 v15 v2 false).bind fun v19 => (bif v16 then (c7 v19 v17 v19.2) else (c7 v19 v17 false)))) else (bif v16 then (bif (v15 == (v1.flat.length : Int)) then (some ((v1.ends.length : Int) == 0)) else (some false)) else (some false)))
def spec_Good_l6 (N : Nat) (self : Geo → Option (Bool)) : Nat → Int → Geo → Int → Bool → Int → Option (Bool)
  | 0, _, _, _, _, _ => none
  | n + 1, v2, v1, v15, v16, v17 => spec_Good_g6 N self v2 v1 (spec_Good_j7 N self (spec_Good_l6 N self n v2 v1) v2 v1) (spec_Good_l6 N self n v2 v1) v15 v16 v17
def spec_Good_g5 (N : Nat) (self : Geo → Option (Bool)) (v2 : Int) (v1 : Geo) (c6 : Int → Geo → Int → Bool → Int → Option (Bool)) (v11 : Bool) : Option (Bool) :=
  bif v11 then ((spec_goodEnds N v1.ends 0 v2 (v1.kind == 4)).bind fun v12 => (bif v12.2 then (some (v12.1 == (v1.flat.length : Int))) else (some false))) else (bif (v1.kind == 6) then ((c6 v2 v1 0 true 0)) else (some false))
def spec_Good_j5 (N : Nat) (self : Geo → Option (Bool)) (v2 : Int) (v1 : Geo) (v11 : Bool) : Option (Bool) :=
  gate N (spec_Good_g5 N self v2 v1 (spec_Good_l6 N self N) v11)
def spec_Good_g4 (N : Nat) (self : Geo → Option (Bool)) (v2 : Int) (v1 : Geo) (c5 : Int → Geo → Bool → Option (Bool)) (v10 : Bool) : Option (Bool) :=
  bif v10 then (some ((v1.ends.length : Int) == 0)) else (bif (v1.kind == 3) then (c5 v2 v1 (v1.kind == 3)) else (bif (v1.kind == 4) then (c5 v2 v1 (v1.kind == 4)) else (c5 v2 v1 (v1.kind == 5))))
def spec_Good_j4 (N : Nat) (self : Geo → Option (Bool)) (v2 : Int) (v1 : Geo) (v10 : Bool) : Option (Bool) :=
  gate N (spec_Good_g4 N self v2 v1 (spec_Good_j5 N self) v10)
def spec_Good_g3 (N : Nat) (self : Geo → Option (Bool)) (v2 : Int) (v1 : Geo) (c4 : Int → Geo → Bool → Option (Bool)) : Option (Bool) :=
  (bif (v1.kind == 1) then (bif ((v1.ends.length : Int) == 0) then (some (decide (((v1.flat.length : Int) : Int) ≤ v2))) else (some false)) else (bif (v1.kind == 2) then (c4 v2 v1 (v1.kind == 2)) else (c4 v2 v1 (v1.kind == 8))))
def spec_Good_j3 (N : Nat) (self : Geo → Option (Bool)) (v2 : Int) (v1 : Geo) : Option (Bool) :=
  gate N (spec_Good_g3 N self v2 v1 (spec_Good_j4 N self))
def spec_Good_g (N : Nat) (self : Geo → Option (Bool)) (v1 : Geo) (c0 : Geo → Int → Option (Bool)) (c2 : Int → Geo → Option (Bool)) (c3 : Int → Geo → Option (Bool)) : Option (Bool) :=
  ((spec_Stride N v1.layout).bind fun v2 => (bif (v1.kind == 7) then ((c0 v1 0)) else (bif (v2 == 0) then (c2 v2 v1) else (if v2 = 0 then none else bif ((Int.tmod (v1.flat.length : Int) v2) != 0) then (c2 v2 v1) else (bif (decide (((v1.kids.length : Int) : Int) > 0)) then (c2 v2 v1) else (bif (decide (((v1.endss.length : Int) : Int) > 0)) then (gate N (bif (v1.kind != 6) then (some false) else (c3 v2 v1))) else (gate N (c3 v2 v1))))))))
def spec_Good (N : Nat) : Nat → Geo → Option (Bool)
  | 0, _ => none
  | d + 1, v1 => spec_Good_g N (spec_Good N d) v1 (spec_Good_l0 N (spec_Good N d) N) (spec_Good_j2 N (spec_Good N d)) (spec_Good_j3 N (spec_Good N d))
noncomputable def spec_Good_con' (N : Nat) (d : Nat) : Con := ⟨41, [.k .geo], [.bool], fun x => spec_Good N d x.1⟩
noncomputable def spec_Good_E (N : Nat) (d : Nat) : Env := ⟨Try.prog, N, [spec_Good_con' N d, spec_Stride_con N, spec_LayoutOf_con N, spec_goodEnds_con N], [(0, ⟨[], [], [0], [], none⟩), (1, ⟨[], [], [1], [1], none⟩), (2, ⟨[], [], [1, 3], [1], none⟩), (3, ⟨[], [], [1, 3, 18], [1], none⟩), (4, ⟨[], [], [1, 20, 21, 22], [1], none⟩), (5, ⟨[], [], [1, 20, 21, 22], [1], none⟩), (6, ⟨[], [], [1, 5, 20, 21, 22], [1, 5], none⟩), (7, ⟨[], [], [1, 20, 21, 22, 40], [1], none⟩), (8, ⟨[], [], [1, 20, 21, 22], [1], some N⟩), (9, ⟨[], [], [1], [1], none⟩), (10, ⟨[], [], [1, 3], [1], none⟩), (11, ⟨[], [], [1, 3, 85], [1], some N⟩), (12, ⟨[], [], [1, 3], [1], some N⟩), (13, ⟨[], [], [1, 3, 87], [1], none⟩), (14, ⟨[], [], [1, 3, 87, 88], [1], none⟩), (16, ⟨[], [], [1, 3, 87, 101], [1], none⟩), (17, ⟨[], [], [1, 3, 87, 101], [1], some N⟩), (19, ⟨[], [], [1, 3, 87, 108], [1], none⟩), (20, ⟨[], [], [1, 3, 87, 108], [1], none⟩), (21, ⟨[], [], [1, 3, 87, 108], [1], some N⟩), (22, ⟨[], [], [1, 6, 7], [1], none⟩), (24, ⟨[], [], [1, 3, 130], [1], none⟩), (25, ⟨[], [], [1, 3, 8, 9], [1], none⟩), (26, ⟨[], [], [1, 3, 8, 9, 133, 134, 135], [1], none⟩), (27, ⟨[], [], [1, 3, 8, 9, 133, 134, 135], [1], none⟩), (28, ⟨[], [], [1, 3, 8, 9, 11, 133, 134, 135], [1], none⟩), (29, ⟨[], [], [1, 3, 8, 9, 11, 133, 134, 135], [1], none⟩), (30, ⟨[], [], [1, 3, 8, 9, 12, 133, 134, 135], [1], none⟩), (31, ⟨[], [], [1, 3, 8, 9, 133, 134, 135], [1], some N⟩), (32, ⟨[], [], [1, 8, 9], [1], none⟩), (33, ⟨[], [], [], [], none⟩)], kdL [], []⟩
set_option maxRecDepth 100000
noncomputable def spec_Good_e1 (N : Nat) (d : Nat) (m0 : Nat) (v1 : Geo) (v6 : Int) : Option (HR [.bool]) :=
  gate N (evC (spec_Good_E N d) (codeAt (bodyOf Try.f41) [1, 1, 0, 1, 0, 0, 1, 0, 0, 1, 1, 1]) ⟨[(1, .ref 1 0), (20, .pv (.list .geo) v1.kids), (21, .pv (.int .i64) (v1.kids.length : Int)), (22, .pv (.int .i64) v6)], [(1, .box [.pv (.int .i64) v1.kind, .pv (.int .i64) v1.layout, .pv (.int .i64) v1.srid, .pv (.list .float) v1.flat, .pv (.list (.int .i64)) v1.ends, .pv (.list (.list (.int .i64))) v1.endss, .pv (.list .geo) v1.kids])], []⟩ (kSeq (advOf (spec_Good_E N d) (codeAt (bodyOf Try.f41) [1, 1, 0, 1, 0, 0, 1, 0, 0])) (fun st K => loopN (advOf (spec_Good_E N d) (codeAt (bodyOf Try.f41) [1, 1, 0, 1, 0, 0, 1, 0, 0])) (evC (spec_Good_E N d) (codeAt (bodyOf Try.f41) [1, 1, 0, 1, 0, 0, 1, 0, 0])) m0 st K) (kBlock 0 (kSeq (advOf (spec_Good_E N d) (codeAt (bodyOf Try.f41) [1, 1, 0, 1, 0, 1])) (evC (spec_Good_E N d) (codeAt (bodyOf Try.f41) [1, 1, 0, 1, 0, 1])) (kSeq (advOf (spec_Good_E N d) (codeAt (bodyOf Try.f41) [1, 1, 1])) (evC (spec_Good_E N d) (codeAt (bodyOf Try.f41) [1, 1, 1])) (kEnd (spec_Good_E N d) [] Try.f41.results.toList [.bool]))))))
noncomputable def spec_Good_e0 (N : Nat) (d : Nat) (n : Nat) (v1 : Geo) (v6 : Int) : Option (HR [.bool]) :=
  loopN (advOf (spec_Good_E N d) (codeAt (bodyOf Try.f41) [1, 1, 0, 1, 0, 0, 1, 0, 0])) (evC (spec_Good_E N d) (codeAt (bodyOf Try.f41) [1, 1, 0, 1, 0, 0, 1, 0, 0])) n ⟨[(1, .ref 1 0), (20, .pv (.list .geo) v1.kids), (21, .pv (.int .i64) (v1.kids.length : Int)), (22, .pv (.int .i64) v6)], [(1, .box [.pv (.int .i64) v1.kind, .pv (.int .i64) v1.layout, .pv (.int .i64) v1.srid, .pv (.list .float) v1.flat, .pv (.list (.int .i64)) v1.ends, .pv (.list (.list (.int .i64))) v1.endss, .pv (.list .geo) v1.kids])], []⟩ (kBlock 0 (kSeq (advOf (spec_Good_E N d) (codeAt (bodyOf Try.f41) [1, 1, 0, 1, 0, 1])) (evC (spec_Good_E N d) (codeAt (bodyOf Try.f41) [1, 1, 0, 1, 0, 1])) (kSeq (advOf (spec_Good_E N d) (codeAt (bodyOf Try.f41) [1, 1, 1])) (evC (spec_Good_E N d) (codeAt (bodyOf Try.f41) [1, 1, 1])) (kEnd (spec_Good_E N d) [] Try.f41.results.toList [.bool]))))
noncomputable def spec_Good_e2 (N : Nat) (d : Nat) (v2 : Int) (v1 : Geo) : Option (HR [.bool]) :=
  gate N (evC (spec_Good_E N d) (codeAt (bodyOf Try.f41) [1, 1, 1, 0, 1]) ⟨[(1, .ref 1 0), (3, .pv (.int .i64) v2), (85, .pv .bool true)], [(1, .box [.pv (.int .i64) v1.kind, .pv (.int .i64) v1.layout, .pv (.int .i64) v1.srid, .pv (.list .float) v1.flat, .pv (.list (.int .i64)) v1.ends, .pv (.list (.list (.int .i64))) v1.endss, .pv (.list .geo) v1.kids])], []⟩ (kSeq (advOf (spec_Good_E N d) (codeAt (bodyOf Try.f41) [1, 1, 1, 1])) (evC (spec_Good_E N d) (codeAt (bodyOf Try.f41) [1, 1, 1, 1])) (kEnd (spec_Good_E N d) [] Try.f41.results.toList [.bool])))
noncomputable def spec_Good_e7 (N : Nat) (d : Nat) (m6 : Nat) (v2 : Int) (v1 : Geo) (v19 : (Int × Bool)) (v17 : Int) (v20 : Bool) : Option (HR [.bool]) :=
  gate N (evC (spec_Good_E N d) (codeAt (bodyOf Try.f41) [1, 1, 1, 1, 0, 1, 0, 1, 1, 1, 1, 1, 1, 1, 0, 1, 0, 1, 0, 0, 1, 1, 1]) ⟨[(1, .ref 1 0), (3, .pv (.int .i64) v2), (8, .pv (.int .i64) v19.1), (9, .pv .bool v20), (133, .pv (.list (.list (.int .i64))) v1.endss), (134, .pv (.int .i64) (v1.endss.length : Int)), (135, .pv (.int .i64) v17)], [(1, .box [.pv (.int .i64) v1.kind, .pv (.int .i64) v1.layout, .pv (.int .i64) v1.srid, .pv (.list .float) v1.flat, .pv (.list (.int .i64)) v1.ends, .pv (.list (.list (.int .i64))) v1.endss, .pv (.list .geo) v1.kids])], []⟩ (kSeq (advOf (spec_Good_E N d) (codeAt (bodyOf Try.f41) [1, 1, 1, 1, 0, 1, 0, 1, 1, 1, 1, 1, 1, 1, 0, 1, 0, 1, 0, 0])) (fun st K => loopN (advOf (spec_Good_E N d) (codeAt (bodyOf Try.f41) [1, 1, 1, 1, 0, 1, 0, 1, 1, 1, 1, 1, 1, 1, 0, 1, 0, 1, 0, 0])) (evC (spec_Good_E N d) (codeAt (bodyOf Try.f41) [1, 1, 1, 1, 0, 1, 0, 1, 1, 1, 1, 1, 1, 1, 0, 1, 0, 1, 0, 0])) m6 st K) (kBlock 3 (kSeq (advOf (spec_Good_E N d) (codeAt (bodyOf Try.f41) [1, 1, 1, 1, 0, 1, 0, 1, 1, 1, 1, 1, 1, 1, 0, 1, 1])) (evC (spec_Good_E N d) (codeAt (bodyOf Try.f41) [1, 1, 1, 1, 0, 1, 0, 1, 1, 1, 1, 1, 1, 1, 0, 1, 1])) (kBlock 2 (kSeq (advOf (spec_Good_E N d) (codeAt (bodyOf Try.f41) [1, 1, 1, 1, 1])) (evC (spec_Good_E N d) (codeAt (bodyOf Try.f41) [1, 1, 1, 1, 1])) (kEnd (spec_Good_E N d) [] Try.f41.results.toList [.bool])))))))
noncomputable def spec_Good_e6 (N : Nat) (d : Nat) (n : Nat) (v2 : Int) (v1 : Geo) (v15 : Int) (v16 : Bool) (v17 : Int) : Option (HR [.bool]) :=
  loopN (advOf (spec_Good_E N d) (codeAt (bodyOf Try.f41) [1, 1, 1, 1, 0, 1, 0, 1, 1, 1, 1, 1, 1, 1, 0, 1, 0, 1, 0, 0])) (evC (spec_Good_E N d) (codeAt (bodyOf Try.f41) [1, 1, 1, 1, 0, 1, 0, 1, 1, 1, 1, 1, 1, 1, 0, 1, 0, 1, 0, 0])) n ⟨[(1, .ref 1 0), (3, .pv (.int .i64) v2), (8, .pv (.int .i64) v15), (9, .pv .bool v16), (133, .pv (.list (.list (.int .i64))) v1.endss), (134, .pv (.int .i64) (v1.endss.length : Int)), (135, .pv (.int .i64) v17)], [(1, .box [.pv (.int .i64) v1.kind, .pv (.int .i64) v1.layout, .pv (.int .i64) v1.srid, .pv (.list .float) v1.flat, .pv (.list (.int .i64)) v1.ends, .pv (.list (.list (.int .i64))) v1.endss, .pv (.list .geo) v1.kids])], []⟩ (kBlock 3 (kSeq (advOf (spec_Good_E N d) (codeAt (bodyOf Try.f41) [1, 1, 1, 1, 0, 1, 0, 1, 1, 1, 1, 1, 1, 1, 0, 1, 1])) (evC (spec_Good_E N d) (codeAt (bodyOf Try.f41) [1, 1, 1, 1, 0, 1, 0, 1, 1, 1, 1, 1, 1, 1, 0, 1, 1])) (kBlock 2 (kSeq (advOf (spec_Good_E N d) (codeAt (bodyOf Try.f41) [1, 1, 1, 1, 1])) (evC (spec_Good_E N d) (codeAt (bodyOf Try.f41) [1, 1, 1, 1, 1])) (kEnd (spec_Good_E N d) [] Try.f41.results.toList [.bool])))))
noncomputable def spec_Good_e5 (N : Nat) (d : Nat) (v2 : Int) (v1 : Geo) (v11 : Bool) : Option (HR [.bool]) :=
  gate N (evC (spec_Good_E N d) (codeAt (bodyOf Try.f41) [1, 1, 1, 1, 0, 1, 0, 1, 1, 1, 1, 1]) ⟨[(1, .ref 1 0), (3, .pv (.int .i64) v2), (87, .pv (.int .i64) v1.kind), (108, .pv .bool v11)], [(1, .box [.pv (.int .i64) v1.kind, .pv (.int .i64) v1.layout, .pv (.int .i64) v1.srid, .pv (.list .float) v1.flat, .pv (.list (.int .i64)) v1.ends, .pv (.list (.list (.int .i64))) v1.endss, .pv (.list .geo) v1.kids])], []⟩ (kBlock 2 (kSeq (advOf (spec_Good_E N d) (codeAt (bodyOf Try.f41) [1, 1, 1, 1, 1])) (evC (spec_Good_E N d) (codeAt (bodyOf Try.f41) [1, 1, 1, 1, 1])) (kEnd (spec_Good_E N d) [] Try.f41.results.toList [.bool]))))
noncomputable def spec_Good_e4 (N : Nat) (d : Nat) (v2 : Int) (v1 : Geo) (v10 : Bool) : Option (HR [.bool]) :=
  gate N (evC (spec_Good_E N d) (codeAt (bodyOf Try.f41) [1, 1, 1, 1, 0, 1, 0, 1, 1, 1]) ⟨[(1, .ref 1 0), (3, .pv (.int .i64) v2), (87, .pv (.int .i64) v1.kind), (101, .pv .bool v10)], [(1, .box [.pv (.int .i64) v1.kind, .pv (.int .i64) v1.layout, .pv (.int .i64) v1.srid, .pv (.list .float) v1.flat, .pv (.list (.int .i64)) v1.ends, .pv (.list (.list (.int .i64))) v1.endss, .pv (.list .geo) v1.kids])], []⟩ (kBlock 2 (kSeq (advOf (spec_Good_E N d) (codeAt (bodyOf Try.f41) [1, 1, 1, 1, 1])) (evC (spec_Good_E N d) (codeAt (bodyOf Try.f41) [1, 1, 1, 1, 1])) (kEnd (spec_Good_E N d) [] Try.f41.results.toList [.bool]))))
noncomputable def spec_Good_e3 (N : Nat) (d : Nat) (v2 : Int) (v1 : Geo) : Option (HR [.bool]) :=
  gate N (evC (spec_Good_E N d) (codeAt (bodyOf Try.f41) [1, 1, 1, 1]) ⟨[(1, .ref 1 0), (3, .pv (.int .i64) v2)], [(1, .box [.pv (.int .i64) v1.kind, .pv (.int .i64) v1.layout, .pv (.int .i64) v1.srid, .pv (.list .float) v1.flat, .pv (.list (.int .i64)) v1.ends, .pv (.list (.list (.int .i64))) v1.endss, .pv (.list .geo) v1.kids])], []⟩ (kEnd (spec_Good_E N d) [] Try.f41.results.toList [.bool]))
theorem spec_Good_t1 (N : Nat) (d : Nat) (m0 : Nat) (v1 : Geo) (v6 : Int) : spec_Good_e1 N d m0 v1 v6 = spec_Good_j1 N (spec_Good N d) (spec_Good_e0 N d m0 v1) v1 v6 := by
  exact (congrArg (gate N) (show evC (spec_Good_E N d) (codeAt (bodyOf Try.f41) [1, 1, 0, 1, 0, 0, 1, 0, 0, 1, 1, 1]) ⟨[(1, .ref 1 0), (20, .pv (.list .geo) v1.kids), (21, .pv (.int .i64) (v1.kids.length : Int)), (22, .pv (.int .i64) v6)], [(1, .box [.pv (.int .i64) v1.kind, .pv (.int .i64) v1.layout, .pv (.int .i64) v1.srid, .pv (.list .float) v1.flat, .pv (.list (.int .i64)) v1.ends, .pv (.list (.list (.int .i64))) v1.endss, .pv (.list .geo) v1.kids])], []⟩ (kSeq (advOf (spec_Good_E N d) (codeAt (bodyOf Try.f41) [1, 1, 0, 1, 0, 0, 1, 0, 0])) (fun st K => loopN (advOf (spec_Good_E N d) (codeAt (bodyOf Try.f41) [1, 1, 0, 1, 0, 0, 1, 0, 0])) (evC (spec_Good_E N d) (codeAt (bodyOf Try.f41) [1, 1, 0, 1, 0, 0, 1, 0, 0])) m0 st K) (kBlock 0 (kSeq (advOf (spec_Good_E N d) (codeAt (bodyOf Try.f41) [1, 1, 0, 1, 0, 1])) (evC (spec_Good_E N d) (codeAt (bodyOf Try.f41) [1, 1, 0, 1, 0, 1])) (kSeq (advOf (spec_Good_E N d) (codeAt (bodyOf Try.f41) [1, 1, 1])) (evC (spec_Good_E N d) (codeAt (bodyOf Try.f41) [1, 1, 1])) (kEnd (spec_Good_E N d) [] Try.f41.results.toList [.bool]))))) = spec_Good_g1 N (spec_Good N d) v1 v6 (spec_Good_e0 N d m0 v1) from by kernel_rfl)).trans (by rfl)
theorem spec_Good_t0 (N : Nat) (d : Nat) : ∀ (n : Nat) (v1 : Geo) (v6 : Int), spec_Good_e0 N d n v1 v6 = spec_Good_l0 N (spec_Good N d) n v1 v6
  | 0, _, _ => rfl
  | n + 1, v1, v6 => by
    have h1 : (spec_Good_e1 N d n v1) = (spec_Good_j1 N (spec_Good N d) (spec_Good_e0 N d n v1) v1) := by funext v6; exact spec_Good_t1 N d n v1 v6
    have h : spec_Good_e0 N d n v1 = spec_Good_l0 N (spec_Good N d) n v1 := by funext v6; exact spec_Good_t0 N d n v1 v6
    exact (show spec_Good_e0 N d (n + 1) v1 v6 = spec_Good_g0 N (spec_Good N d) v1 (spec_Good_e1 N d n v1) (spec_Good_e0 N d n v1) v6 from by kernel_rfl).trans (by rw [h1, h]; rfl)
theorem spec_Good_t2 (N : Nat) (d : Nat) (v2 : Int) (v1 : Geo) : spec_Good_e2 N d v2 v1 = spec_Good_j2 N (spec_Good N d) v2 v1 := by
  exact (congrArg (gate N) (show evC (spec_Good_E N d) (codeAt (bodyOf Try.f41) [1, 1, 1, 0, 1]) ⟨[(1, .ref 1 0), (3, .pv (.int .i64) v2), (85, .pv .bool true)], [(1, .box [.pv (.int .i64) v1.kind, .pv (.int .i64) v1.layout, .pv (.int .i64) v1.srid, .pv (.list .float) v1.flat, .pv (.list (.int .i64)) v1.ends, .pv (.list (.list (.int .i64))) v1.endss, .pv (.list .geo) v1.kids])], []⟩ (kSeq (advOf (spec_Good_E N d) (codeAt (bodyOf Try.f41) [1, 1, 1, 1])) (evC (spec_Good_E N d) (codeAt (bodyOf Try.f41) [1, 1, 1, 1])) (kEnd (spec_Good_E N d) [] Try.f41.results.toList [.bool])) = spec_Good_g2 N (spec_Good N d) v2 v1 from by kernel_rfl)).trans (by rfl)
theorem spec_Good_t7 (N : Nat) (d : Nat) (m6 : Nat) (v2 : Int) (v1 : Geo) (v19 : (Int × Bool)) (v17 : Int) (v20 : Bool) : spec_Good_e7 N d m6 v2 v1 v19 v17 v20 = spec_Good_j7 N (spec_Good N d) (spec_Good_e6 N d m6 v2 v1) v2 v1 v19 v17 v20 := by
  exact (congrArg (gate N) (show evC (spec_Good_E N d) (codeAt (bodyOf Try.f41) [1, 1, 1, 1, 0, 1, 0, 1, 1, 1, 1, 1, 1, 1, 0, 1, 0, 1, 0, 0, 1, 1, 1]) ⟨[(1, .ref 1 0), (3, .pv (.int .i64) v2), (8, .pv (.int .i64) v19.1), (9, .pv .bool v20), (133, .pv (.list (.list (.int .i64))) v1.endss), (134, .pv (.int .i64) (v1.endss.length : Int)), (135, .pv (.int .i64) v17)], [(1, .box [.pv (.int .i64) v1.kind, .pv (.int .i64) v1.layout, .pv (.int .i64) v1.srid, .pv (.list .float) v1.flat, .pv (.list (.int .i64)) v1.ends, .pv (.list (.list (.int .i64))) v1.endss, .pv (.list .geo) v1.kids])], []⟩ (kSeq (advOf (spec_Good_E N d) (codeAt (bodyOf Try.f41) [1, 1, 1, 1, 0, 1, 0, 1, 1, 1, 1, 1, 1, 1, 0, 1, 0, 1, 0, 0])) (fun st K => loopN (advOf (spec_Good_E N d) (codeAt (bodyOf Try.f41) [1, 1, 1, 1, 0, 1, 0, 1, 1, 1, 1, 1, 1, 1, 0, 1, 0, 1, 0, 0])) (evC (spec_Good_E N d) (codeAt (bodyOf Try.f41) [1, 1, 1, 1, 0, 1, 0, 1, 1, 1, 1, 1, 1, 1, 0, 1, 0, 1, 0, 0])) m6 st K) (kBlock 3 (kSeq (advOf (spec_Good_E N d) (codeAt (bodyOf Try.f41) [1, 1, 1, 1, 0, 1, 0, 1, 1, 1, 1, 1, 1, 1, 0, 1, 1])) (evC (spec_Good_E N d) (codeAt (bodyOf Try.f41) [1, 1, 1, 1, 0, 1, 0, 1, 1, 1, 1, 1, 1, 1, 0, 1, 1])) (kBlock 2 (kSeq (advOf (spec_Good_E N d) (codeAt (bodyOf Try.f41) [1, 1, 1, 1, 1])) (evC (spec_Good_E N d) (codeAt (bodyOf Try.f41) [1, 1, 1, 1, 1])) (kEnd (spec_Good_E N d) [] Try.f41.results.toList [.bool])))))) = spec_Good_g7 N (spec_Good N d) v2 v1 v19 v17 (spec_Good_e6 N d m6 v2 v1) v20 from by kernel_rfl)).trans (by rfl)
theorem spec_Good_t6 (N : Nat) (d : Nat) : ∀ (n : Nat) (v2 : Int) (v1 : Geo) (v15 : Int) (v16 : Bool) (v17 : Int), spec_Good_e6 N d n v2 v1 v15 v16 v17 = spec_Good_l6 N (spec_Good N d) n v2 v1 v15 v16 v17
  | 0, _, _, _, _, _ => rfl
  | n + 1, v2, v1, v15, v16, v17 => by
    have h7 : (spec_Good_e7 N d n v2 v1) = (spec_Good_j7 N (spec_Good N d) (spec_Good_e6 N d n v2 v1) v2 v1) := by funext v19 v17 v20; exact spec_Good_t7 N d n v2 v1 v19 v17 v20
    have h : spec_Good_e6 N d n v2 v1 = spec_Good_l6 N (spec_Good N d) n v2 v1 := by funext v15 v16 v17; exact spec_Good_t6 N d n v2 v1 v15 v16 v17
    exact (show spec_Good_e6 N d (n + 1) v2 v1 v15 v16 v17 = spec_Good_g6 N (spec_Good N d) v2 v1 (spec_Good_e7 N d n v2 v1) (spec_Good_e6 N d n v2 v1) v15 v16 v17 from by kernel_rfl).trans (by rw [h7, h]; rfl)
theorem spec_Good_t5 (N : Nat) (d : Nat) (v2 : Int) (v1 : Geo) (v11 : Bool) : spec_Good_e5 N d v2 v1 v11 = spec_Good_j5 N (spec_Good N d) v2 v1 v11 := by
  have h6 : (spec_Good_e6 N d N) = (spec_Good_l6 N (spec_Good N d) N) := by funext v2 v1 v15 v16 v17; exact spec_Good_t6 N d N v2 v1 v15 v16 v17
  exact (congrArg (gate N) (show evC (spec_Good_E N d) (codeAt (bodyOf Try.f41) [1, 1, 1, 1, 0, 1, 0, 1, 1, 1, 1, 1]) ⟨[(1, .ref 1 0), (3, .pv (.int .i64) v2), (87, .pv (.int .i64) v1.kind), (108, .pv .bool v11)], [(1, .box [.pv (.int .i64) v1.kind, .pv (.int .i64) v1.layout, .pv (.int .i64) v1.srid, .pv (.list .float) v1.flat, .pv (.list (.int .i64)) v1.ends, .pv (.list (.list (.int .i64))) v1.endss, .pv (.list .geo) v1.kids])], []⟩ (kBlock 2 (kSeq (advOf (spec_Good_E N d) (codeAt (bodyOf Try.f41) [1, 1, 1, 1, 1])) (evC (spec_Good_E N d) (codeAt (bodyOf Try.f41) [1, 1, 1, 1, 1])) (kEnd (spec_Good_E N d) [] Try.f41.results.toList [.bool]))) = spec_Good_g5 N (spec_Good N d) v2 v1 (spec_Good_e6 N d N) v11 from by kernel_rfl)).trans (by rw [h6]; rfl)
theorem spec_Good_t4 (N : Nat) (d : Nat) (v2 : Int) (v1 : Geo) (v10 : Bool) : spec_Good_e4 N d v2 v1 v10 = spec_Good_j4 N (spec_Good N d) v2 v1 v10 := by
  have h5 : (spec_Good_e5 N d) = (spec_Good_j5 N (spec_Good N d)) := by funext v2 v1 v11; exact spec_Good_t5 N d v2 v1 v11
  exact (congrArg (gate N) (show evC (spec_Good_E N d) (codeAt (bodyOf Try.f41) [1, 1, 1, 1, 0, 1, 0, 1, 1, 1]) ⟨[(1, .ref 1 0), (3, .pv (.int .i64) v2), (87, .pv (.int .i64) v1.kind), (101, .pv .bool v10)], [(1, .box [.pv (.int .i64) v1.kind, .pv (.int .i64) v1.layout, .pv (.int .i64) v1.srid, .pv (.list .float) v1.flat, .pv (.list (.int .i64)) v1.ends, .pv (.list (.list (.int .i64))) v1.endss, .pv (.list .geo) v1.kids])], []⟩ (kBlock 2 (kSeq (advOf (spec_Good_E N d) (codeAt (bodyOf Try.f41) [1, 1, 1, 1, 1])) (evC (spec_Good_E N d) (codeAt (bodyOf Try.f41) [1, 1, 1, 1, 1])) (kEnd (spec_Good_E N d) [] Try.f41.results.toList [.bool]))) = spec_Good_g4 N (spec_Good N d) v2 v1 (spec_Good_e5 N d) v10 from by kernel_rfl)).trans (by rw [h5]; rfl)
theorem spec_Good_t3 (N : Nat) (d : Nat) (v2 : Int) (v1 : Geo) : spec_Good_e3 N d v2 v1 = spec_Good_j3 N (spec_Good N d) v2 v1 := by
  have h4 : (spec_Good_e4 N d) = (spec_Good_j4 N (spec_Good N d)) := by funext v2 v1 v10; exact spec_Good_t4 N d v2 v1 v10
  exact (congrArg (gate N) (show evC (spec_Good_E N d) (codeAt (bodyOf Try.f41) [1, 1, 1, 1]) ⟨[(1, .ref 1 0), (3, .pv (.int .i64) v2)], [(1, .box [.pv (.int .i64) v1.kind, .pv (.int .i64) v1.layout, .pv (.int .i64) v1.srid, .pv (.list .float) v1.flat, .pv (.list (.int .i64)) v1.ends, .pv (.list (.list (.int .i64))) v1.endss, .pv (.list .geo) v1.kids])], []⟩ (kEnd (spec_Good_E N d) [] Try.f41.results.toList [.bool]) = spec_Good_g3 N (spec_Good N d) v2 v1 (spec_Good_e4 N d) from by kernel_rfl)).trans (by rw [h4]; rfl)
theorem spec_Good_t (N : Nat) (d : Nat) (v1 : Geo) : evF (spec_Good_E N d) [] Try.f41 [.k .geo] [.bool] (v1, ()) = spec_Good N (d + 1) v1 := by
  have h0 : (spec_Good_e0 N d N) = (spec_Good_l0 N (spec_Good N d) N) := by funext v1 v6; exact spec_Good_t0 N d N v1 v6
  have h2 : (spec_Good_e2 N d) = (spec_Good_j2 N (spec_Good N d)) := by funext v2 v1; exact spec_Good_t2 N d v2 v1
  have h3 : (spec_Good_e3 N d) = (spec_Good_j3 N (spec_Good N d)) := by funext v2 v1; exact spec_Good_t3 N d v2 v1
  exact (show evF (spec_Good_E N d) [] Try.f41 [.k .geo] [.bool] (v1, ()) = spec_Good_g N (spec_Good N d) v1 (spec_Good_e0 N d N) (spec_Good_e2 N d) (spec_Good_e3 N d) from by kernel_rfl).trans (by rw [h0, h2, h3]; rfl)
theorem spec_Good_s' (N : Nat) : ∀ d, (spec_Good_con' N d).Sound Try.prog
  | 0 => fun _ _ _ _ _ _ _ h => by cases h
  | d + 1 => Con.sound_of (c := spec_Good_con' N (d + 1)) (E := (spec_Good_E N d)) (idle := []) Try.func41 (by kernel_rfl) (by kernel_rfl) ⟨(allCons (spec_Good_s' N d) (allCons (spec_Stride_s N) (allCons (spec_LayoutOf_s N) (allCons (spec_goodEnds_s N) allNil)))), allNil⟩ allNil (fun x y h => (spec_Good_t N d x.1).trans h)
noncomputable def spec_Good_con (N : Nat) : Con := spec_Good_con' N N
theorem spec_Good_s (N : Nat) : (spec_Good_con N).Sound Try.prog := spec_Good_s' N N
/-- pub-orthodrome/laws.gGood -/
noncomputable def laws_gGood_E (N : Nat) : Env := ⟨Try.prog, N, [laws_gSmall_con N, spec_Good_con N], [(0, ⟨[], [], [0], [], none⟩), (1, ⟨[], [], [0], [], none⟩), (2, ⟨[], [], [0, 7], [], none⟩), (3, ⟨[], [], [0], [], none⟩), (4, ⟨[], [], [8, 9, 10], [], none⟩), (5, ⟨[], [], [8, 9, 10], [], none⟩), (6, ⟨[], [], [4, 8, 9, 10], [4], none⟩), (7, ⟨[], [], [8, 9, 10, 16], [], none⟩), (8, ⟨[], [], [8, 9, 10], [], none⟩), (9, ⟨[], [], [], [], none⟩)], kdL [], []⟩
def laws_gGood_g0 (N : Nat) (v1 : (List Geo)) (r0 : Int → Option (Bool)) (v5 : Int) : Option (Bool) :=
  (bif (decide ((v5 : Int) < (v1.length : Int))) then ((nth v1 v5).bind fun v6 => ((spec_Good N N (Geo.mk v6.kind v6.layout v6.srid v6.flat v6.ends v6.endss v6.kids)).bind fun v7 => (bif (!v7) then (some false) else ((r0 (IntKind.i64.wrap (v5 + 1))))))) else (some true))
def laws_gGood_l0 (N : Nat) : Nat → (List Geo) → Int → Option (Bool)
  | 0, _, _ => none
  | n + 1, v1, v5 => laws_gGood_g0 N v1 (laws_gGood_l0 N n v1) v5
def laws_gGood_g (N : Nat) (v1 : (List Geo)) (c0 : (List Geo) → Int → Option (Bool)) : Option (Bool) :=
  ((laws_gSmall N v1).bind fun v2 => (bif (!v2) then (some false) else ((c0 v1 0))))
def laws_gGood (N : Nat) (v1 : (List Geo)) : Option (Bool) :=
  laws_gGood_g N v1 (laws_gGood_l0 N N)
set_option maxRecDepth 100000
noncomputable def laws_gGood_e0 (N : Nat) (n : Nat) (v1 : (List Geo)) (v5 : Int) : Option (HR [.bool]) :=
  loopN (advOf (laws_gGood_E N) (codeAt (bodyOf Try.f29) [1, 1, 0, 1, 0, 0])) (evC (laws_gGood_E N) (codeAt (bodyOf Try.f29) [1, 1, 0, 1, 0, 0])) n ⟨[(8, .pv (.list .geo) v1), (9, .pv (.int .i64) (v1.length : Int)), (10, .pv (.int .i64) v5)], [], []⟩ (kBlock 0 (kSeq (advOf (laws_gGood_E N) (codeAt (bodyOf Try.f29) [1, 1, 1])) (evC (laws_gGood_E N) (codeAt (bodyOf Try.f29) [1, 1, 1])) (kEnd (laws_gGood_E N) [] Try.f29.results.toList [.bool])))
theorem laws_gGood_t0 (N : Nat) : ∀ (n : Nat) (v1 : (List Geo)) (v5 : Int), laws_gGood_e0 N n v1 v5 = laws_gGood_l0 N n v1 v5
  | 0, _, _ => rfl
  | n + 1, v1, v5 => by
    have h : laws_gGood_e0 N n v1 = laws_gGood_l0 N n v1 := by funext v5; exact laws_gGood_t0 N n v1 v5
    exact (show laws_gGood_e0 N (n + 1) v1 v5 = laws_gGood_g0 N v1 (laws_gGood_e0 N n v1) v5 from by kernel_rfl).trans (by rw [h]; rfl)
theorem laws_gGood_t (N : Nat) (v1 : (List Geo)) : evF (laws_gGood_E N) [] Try.f29 [.k (.list .geo)] [.bool] (v1, ()) = laws_gGood N v1 := by
  have h0 : (laws_gGood_e0 N N) = (laws_gGood_l0 N N) := by funext v1 v5; exact laws_gGood_t0 N N v1 v5
  exact (show evF (laws_gGood_E N) [] Try.f29 [.k (.list .geo)] [.bool] (v1, ()) = laws_gGood_g N v1 (laws_gGood_e0 N N) from by kernel_rfl).trans (by rw [h0]; rfl)
noncomputable def laws_gGood_con (N : Nat) : Con := ⟨29, [.k (.list .geo)], [.bool], fun x => laws_gGood N x.1⟩
theorem laws_gGood_s (N : Nat) : (laws_gGood_con N).Sound Try.prog :=
  Con.sound_of (c := laws_gGood_con N) (E := (laws_gGood_E N)) (idle := []) Try.func29 (by kernel_rfl) (by kernel_rfl) ⟨(allCons (laws_gSmall_s N) (allCons (spec_Good_s N) allNil)), allNil⟩ allNil (fun x y h => (laws_gGood_t N x.1).trans h)
/-- pub-orthodrome/laws.fRow -/
noncomputable def laws_fRow_E (N : Nat) : Env := ⟨Try.prog, N, [laws_fStride_con N, laws_fLayout_con N, laws_gGood_con N], [(0, ⟨[], [], [0, 1], [], none⟩), (1, ⟨[], [], [0, 1, 4], [4], none⟩), (2, ⟨[], [], [0, 1, 4, 9], [4], none⟩), (3, ⟨[], [], [0, 1, 4], [4], none⟩), (4, ⟨[], [], [4, 6], [4, 6], none⟩)], kdL [(34, .geo)], []⟩
def laws_fRow_g (N : Nat) (v1 : (List Nat)) (v2 : Int) : Option (Geo × Bool) :=
  ((laws_fStride N v2).bind fun v3 => (bif (!v3) then (some ((Geo.mk 0 0 0 ([] : List Nat) ([] : List Int) ([] : List (List Int)) ([] : List Geo)), false)) else ((laws_fLayout N v2).bind fun v4 => ((laws_gGood N ([(Geo.mk 8 v4 0 v1 ([] : List Int) ([] : List (List Int)) ([] : List Geo))] : List Geo)).bind fun v5 => (some ((Geo.mk 8 v4 0 v1 ([] : List Int) ([] : List (List Int)) ([] : List Geo)), v5))))))
def laws_fRow (N : Nat) (v1 : (List Nat)) (v2 : Int) : Option (Geo × Bool) :=
  laws_fRow_g N v1 v2
set_option maxRecDepth 100000
theorem laws_fRow_t (N : Nat) (v1 : (List Nat)) (v2 : Int) : evF (laws_fRow_E N) [] Try.f14 [.k (.list .float), .k (.int .i64)] [.geo, .bool] (v1, v2, ()) = laws_fRow N v1 v2 := by
  exact (show evF (laws_fRow_E N) [] Try.f14 [.k (.list .float), .k (.int .i64)] [.geo, .bool] (v1, v2, ()) = laws_fRow_g N v1 v2 from by kernel_rfl).trans (by rfl)
noncomputable def laws_fRow_con (N : Nat) : Con := ⟨14, [.k (.list .float), .k (.int .i64)], [.geo, .bool], fun x => laws_fRow N x.1 x.2.1⟩
theorem laws_fRow_s (N : Nat) : (laws_fRow_con N).Sound Try.prog :=
  Con.sound_of (c := laws_fRow_con N) (E := (laws_fRow_E N)) (idle := []) Try.func14 (by kernel_rfl) (by kernel_rfl) ⟨(allCons (laws_fStride_s N) (allCons (laws_fLayout_s N) (allCons (laws_gGood_s N) allNil))), allNil⟩ allNil (fun x y h => (laws_fRow_t N x.1 x.2.1).trans h)
/-- math.Float64bits -/
def math_Float64bits (N : Nat) (v1 : Nat) : Option Int := some ((v1 : Nat) : Int)
noncomputable def math_Float64bits_con (N : Nat) : Con := ⟨33, [.k .float], [(.int .u64)], fun x => math_Float64bits N x.1⟩
theorem math_Float64bits_s (N : Nat) : (math_Float64bits_con N).Sound Try.prog := bits_of Try.func33 (by kernel_rfl) (by kernel_rfl) (by kernel_rfl) (by kernel_rfl)
/-- pub-orthodrome/spec.SameFloats -/
noncomputable def spec_SameFloats_E (N : Nat) : Env := ⟨Try.prog, N, [math_Float64bits_con N], [(0, ⟨[], [], [0, 1], [], none⟩), (1, ⟨[], [], [0, 1], [], none⟩), (2, ⟨[], [], [0, 1, 11], [], none⟩), (3, ⟨[], [], [0, 1], [], none⟩), (4, ⟨[], [], [1, 12, 13, 14], [], none⟩), (5, ⟨[], [], [1, 12, 13, 14], [], none⟩), (6, ⟨[], [], [1, 5, 6, 12, 13, 14], [], none⟩), (7, ⟨[], [], [1, 12, 13, 14, 26], [], none⟩), (8, ⟨[], [], [1, 12, 13, 14], [], none⟩), (9, ⟨[], [], [], [], none⟩)], kdL [], []⟩
def spec_SameFloats_g0 (N : Nat) (v2 : (List Nat)) (v1 : (List Nat)) (r0 : Int → Option (Bool)) (v7 : Int) : Option (Bool) :=
  (bif (decide ((v7 : Int) < (v1.length : Int))) then ((nth v1 v7).bind fun v8 => ((math_Float64bits N v8).bind fun v9 => (nth v2 v7).bind fun v10 => (math_Float64bits N v10).bind fun v11 => (bif (v9 != v11) then (some false) else ((r0 (IntKind.i64.wrap (v7 + 1))))))) else (some true))
def spec_SameFloats_l0 (N : Nat) : Nat → (List Nat) → (List Nat) → Int → Option (Bool)
  | 0, _, _, _ => none
  | n + 1, v2, v1, v7 => spec_SameFloats_g0 N v2 v1 (spec_SameFloats_l0 N n v2 v1) v7
def spec_SameFloats_g (N : Nat) (v1 : (List Nat)) (v2 : (List Nat)) (c0 : (List Nat) → (List Nat) → Int → Option (Bool)) : Option (Bool) :=
  (bif ((v1.length : Int) != (v2.length : Int)) then (some false) else ((c0 v2 v1 0)))
def spec_SameFloats (N : Nat) (v1 : (List Nat)) (v2 : (List Nat)) : Option (Bool) :=
  spec_SameFloats_g N v1 v2 (spec_SameFloats_l0 N N)
set_option maxRecDepth 100000
noncomputable def spec_SameFloats_e0 (N : Nat) (n : Nat) (v2 : (List Nat)) (v1 : (List Nat)) (v7 : Int) : Option (HR [.bool]) :=
  loopN (advOf (spec_SameFloats_E N) (codeAt (bodyOf Try.f16) [1, 1, 0, 1, 0, 0])) (evC (spec_SameFloats_E N) (codeAt (bodyOf Try.f16) [1, 1, 0, 1, 0, 0])) n ⟨[(1, .pv (.list .float) v2), (12, .pv (.list .float) v1), (13, .pv (.int .i64) (v1.length : Int)), (14, .pv (.int .i64) v7)], [], []⟩ (kBlock 0 (kSeq (advOf (spec_SameFloats_E N) (codeAt (bodyOf Try.f16) [1, 1, 1])) (evC (spec_SameFloats_E N) (codeAt (bodyOf Try.f16) [1, 1, 1])) (kEnd (spec_SameFloats_E N) [] Try.f16.results.toList [.bool])))
theorem spec_SameFloats_t0 (N : Nat) : ∀ (n : Nat) (v2 : (List Nat)) (v1 : (List Nat)) (v7 : Int), spec_SameFloats_e0 N n v2 v1 v7 = spec_SameFloats_l0 N n v2 v1 v7
  | 0, _, _, _ => rfl
  | n + 1, v2, v1, v7 => by
    have h : spec_SameFloats_e0 N n v2 v1 = spec_SameFloats_l0 N n v2 v1 := by funext v7; exact spec_SameFloats_t0 N n v2 v1 v7
    exact (show spec_SameFloats_e0 N (n + 1) v2 v1 v7 = spec_SameFloats_g0 N v2 v1 (spec_SameFloats_e0 N n v2 v1) v7 from by kernel_rfl).trans (by rw [h]; rfl)
theorem spec_SameFloats_t (N : Nat) (v1 : (List Nat)) (v2 : (List Nat)) : evF (spec_SameFloats_E N) [] Try.f16 [.k (.list .float), .k (.list .float)] [.bool] (v1, v2, ()) = spec_SameFloats N v1 v2 := by
  have h0 : (spec_SameFloats_e0 N N) = (spec_SameFloats_l0 N N) := by funext v2 v1 v7; exact spec_SameFloats_t0 N N v2 v1 v7
  exact (show evF (spec_SameFloats_E N) [] Try.f16 [.k (.list .float), .k (.list .float)] [.bool] (v1, v2, ()) = spec_SameFloats_g N v1 v2 (spec_SameFloats_e0 N N) from by kernel_rfl).trans (by rw [h0]; rfl)
noncomputable def spec_SameFloats_con (N : Nat) : Con := ⟨16, [.k (.list .float), .k (.list .float)], [.bool], fun x => spec_SameFloats N x.1 x.2.1⟩
theorem spec_SameFloats_s (N : Nat) : (spec_SameFloats_con N).Sound Try.prog :=
  Con.sound_of (c := spec_SameFloats_con N) (E := (spec_SameFloats_E N)) (idle := []) Try.func16 (by kernel_rfl) (by kernel_rfl) ⟨(allCons (math_Float64bits_s N) allNil), allNil⟩ allNil (fun x y h => (spec_SameFloats_t N x.1 x.2.1).trans h)
/-- pub-orthodrome/impl.floats -/
noncomputable def impl_floats_E (N : Nat) : Env := ⟨Try.prog, N, [], [(0, ⟨[], [], [0], [], none⟩), (1, ⟨[], [], [0], [], none⟩)], kdL [(22, .float)], []⟩
def impl_floats_g (N : Nat) (v1 : (List Nat)) : Option (((List Nat) × Unit)) :=
  ((lim (v1.length * 8)).bind fun _ => (some (v1, ())))
def impl_floats (N : Nat) (v1 : (List Nat)) : Option (((List Nat) × Unit)) :=
  impl_floats_g N v1
set_option maxRecDepth 100000
theorem impl_floats_t (N : Nat) (v1 : (List Nat)) : evF2 (impl_floats_E N) [] Try.f31 [.k (.list .float)] [⟨[.row 22 .float], [none]⟩] (v1, ()) = impl_floats N v1 := by
  exact (show evF2 (impl_floats_E N) [] Try.f31 [.k (.list .float)] [⟨[.row 22 .float], [none]⟩] (v1, ()) = impl_floats_g N v1 from by kernel_rfl).trans (by rfl)
noncomputable def impl_floats_con (N : Nat) : Con2 := ⟨31, [.k (.list .float)], [⟨[.row 22 .float], [none]⟩], fun x => impl_floats N x.1⟩
theorem impl_floats_s (N : Nat) : (impl_floats_con N).Sound Try.prog :=
  Con2.sound_of (c := impl_floats_con N) (E := (impl_floats_E N)) (idle := []) Try.func31 (by kernel_rfl) (by kernel_rfl) ⟨allNil, allNil⟩ allNil (fun x y h => (impl_floats_t N x.1).trans h)
/-- pub-orthodrome/pub/gogeom.reverse1 -/
noncomputable def gogeom_reverse1_E (N : Nat) : Env := ⟨Try.prog, N, [], [(0, ⟨[], [], [0, 1, 2, 3], [1000000], none⟩), (1, ⟨[], [], [0, 3, 8, 9], [1000000], none⟩), (2, ⟨[], [], [0, 3, 8, 9], [1000000], none⟩), (3, ⟨[], [], [0, 3, 8, 9], [1000000], none⟩), (4, ⟨[], [], [0, 3, 8, 9, 24, 25], [1000000], none⟩), (5, ⟨[], [], [0, 3, 8, 9, 24, 25], [1000000], none⟩), (6, ⟨[], [], [0, 3, 8, 9, 10, 24, 25], [1000000], none⟩), (7, ⟨[], [], [0, 3, 8, 9, 24, 25], [1000000], none⟩)], kdL [], []⟩
def gogeom_reverse1_g1 (N : Nat) (v4 : Int) (v19 : Int) (v20 : Int) (r1 : Int → (List Nat) → Option (((List Nat) × Unit))) (r0 : Int → Int → (List Nat) → Option (((List Nat) × Unit))) (v28 : Int) (v29 : (List Nat)) : Option (((List Nat) × Unit)) :=
  (bif (decide ((v28 : Int) < v4)) then ((chk (IntKind.i64.wrap ((IntKind.i64.wrap (v20 - v4)) + v28)) v29.length).bind fun v30 => (v29[v30]?).bind fun v31 => (chk (IntKind.i64.wrap ((IntKind.i64.wrap (v19 - v4)) + v28)) v29.length).bind fun v32 => (v29[v32]?).bind fun v33 => (chk (IntKind.i64.wrap ((IntKind.i64.wrap (v19 - v4)) + v28)) v29.length).bind fun v34 => (chk (IntKind.i64.wrap ((IntKind.i64.wrap (v20 - v4)) + v28)) (v29.set v34 v31).length).bind fun v35 => ((r1 (IntKind.i64.wrap (v28 + 1)) ((v29.set v34 v31).set v35 v33)))) else ((r0 (IntKind.i64.wrap (v19 + v4)) (IntKind.i64.wrap (v20 - v4)) v29)))
def gogeom_reverse1_l1 (N : Nat) (r0 : Int → Int → (List Nat) → Option (((List Nat) × Unit))) (v4 : Int) : Nat → Int → Int → Int → (List Nat) → Option (((List Nat) × Unit))
  | 0, _, _, _, _ => none
  | n + 1, v19, v20, v28, v29 => gogeom_reverse1_g1 N v4 v19 v20 (gogeom_reverse1_l1 N r0 v4 n v19 v20) r0 v28 v29
def gogeom_reverse1_g0 (N : Nat) (v4 : Int) (c1 : Int → Int → Int → (List Nat) → Option (((List Nat) × Unit))) (r0 : Int → Int → (List Nat) → Option (((List Nat) × Unit))) (v19 : Int) (v20 : Int) (v21 : (List Nat)) : Option (((List Nat) × Unit)) :=
  (bif (decide ((v19 : Int) ≤ v20)) then ((c1 v19 v20 0 v21)) else (some (v21, ())))
def gogeom_reverse1_l0 (N : Nat) : Nat → Int → Int → Int → (List Nat) → Option (((List Nat) × Unit))
  | 0, _, _, _, _ => none
  | n + 1, v4, v19, v20, v21 => gogeom_reverse1_g0 N v4 (gogeom_reverse1_l1 N (gogeom_reverse1_l0 N n v4) v4 N) (gogeom_reverse1_l0 N n v4) v19 v20 v21
def gogeom_reverse1_g (N : Nat) (v1 : (List Nat)) (v2 : Int) (v3 : Int) (v4 : Int) (c0 : Int → Int → Int → (List Nat) → Option (((List Nat) × Unit))) : Option (((List Nat) × Unit)) :=
  ((c0 v4 (IntKind.i64.wrap (v2 + v4)) v3 v1))
def gogeom_reverse1 (N : Nat) (v1 : (List Nat)) (v2 : Int) (v3 : Int) (v4 : Int) : Option (((List Nat) × Unit)) :=
  gogeom_reverse1_g N v1 v2 v3 v4 (gogeom_reverse1_l0 N N)
set_option maxRecDepth 100000
noncomputable def gogeom_reverse1_e1 (N : Nat) (m0 : Nat) (v4 : Int) (n : Nat) (v19 : Int) (v20 : Int) (v28 : Int) (v29 : (List Nat)) : Option (AltD [⟨[], [some (.row 22 .float), none, none, none]⟩]) :=
  loopN (advOf (gogeom_reverse1_E N) (codeAt (bodyOf Try.f42) [1, 0, 0, 1, 0, 0, 1, 0, 0])) (evC (gogeom_reverse1_E N) (codeAt (bodyOf Try.f42) [1, 0, 0, 1, 0, 0, 1, 0, 0])) n ⟨[(0, .own .float 1000000), (3, .pv (.int .i64) v4), (8, .pv (.int .i64) v19), (9, .pv (.int .i64) v20), (24, .pv (.int .i64) v4), (25, .pv (.int .i64) v28)], [(1000000, .arr 22 .float v29)], []⟩ (kBlock 2 (kBlock 1 (kSeq (advOf (gogeom_reverse1_E N) (codeAt (bodyOf Try.f42) [1, 0, 0, 1, 1])) (evC (gogeom_reverse1_E N) (codeAt (bodyOf Try.f42) [1, 0, 0, 1, 1])) (kSeq (advOf (gogeom_reverse1_E N) (codeAt (bodyOf Try.f42) [1, 0, 0])) (fun st K => loopN (advOf (gogeom_reverse1_E N) (codeAt (bodyOf Try.f42) [1, 0, 0])) (evC (gogeom_reverse1_E N) (codeAt (bodyOf Try.f42) [1, 0, 0])) m0 st K) (kBlock 0 (kEnd2 (gogeom_reverse1_E N) [] Try.f42.results.toList [⟨[], [some (.row 22 .float), none, none, none]⟩] [.own .float 1000000, .dead, .dead, .dead]))))))
noncomputable def gogeom_reverse1_e0 (N : Nat) (n : Nat) (v4 : Int) (v19 : Int) (v20 : Int) (v21 : (List Nat)) : Option (AltD [⟨[], [some (.row 22 .float), none, none, none]⟩]) :=
  loopN (advOf (gogeom_reverse1_E N) (codeAt (bodyOf Try.f42) [1, 0, 0])) (evC (gogeom_reverse1_E N) (codeAt (bodyOf Try.f42) [1, 0, 0])) n ⟨[(0, .own .float 1000000), (3, .pv (.int .i64) v4), (8, .pv (.int .i64) v19), (9, .pv (.int .i64) v20)], [(1000000, .arr 22 .float v21)], []⟩ (kBlock 0 (kEnd2 (gogeom_reverse1_E N) [] Try.f42.results.toList [⟨[], [some (.row 22 .float), none, none, none]⟩] [.own .float 1000000, .dead, .dead, .dead]))
theorem gogeom_reverse1_t1 (N : Nat) (m0 : Nat) (v4 : Int) : ∀ (n : Nat) (v19 : Int) (v20 : Int) (v28 : Int) (v29 : (List Nat)), gogeom_reverse1_e1 N m0 v4 n v19 v20 v28 v29 = gogeom_reverse1_l1 N (gogeom_reverse1_e0 N m0 v4) v4 n v19 v20 v28 v29
  | 0, _, _, _, _ => rfl
  | n + 1, v19, v20, v28, v29 => by
    have h : gogeom_reverse1_e1 N m0 v4 n v19 v20 = gogeom_reverse1_l1 N (gogeom_reverse1_e0 N m0 v4) v4 n v19 v20 := by funext v28 v29; exact gogeom_reverse1_t1 N m0 v4 n v19 v20 v28 v29
    exact (show gogeom_reverse1_e1 N m0 v4 (n + 1) v19 v20 v28 v29 = gogeom_reverse1_g1 N v4 v19 v20 (gogeom_reverse1_e1 N m0 v4 n v19 v20) (gogeom_reverse1_e0 N m0 v4) v28 v29 from by kernel_rfl).trans (by rw [h]; rfl)
theorem gogeom_reverse1_t0 (N : Nat) : ∀ (n : Nat) (v4 : Int) (v19 : Int) (v20 : Int) (v21 : (List Nat)), gogeom_reverse1_e0 N n v4 v19 v20 v21 = gogeom_reverse1_l0 N n v4 v19 v20 v21
  | 0, _, _, _, _ => rfl
  | n + 1, v4, v19, v20, v21 => by
    have h1 : (gogeom_reverse1_e1 N n v4 N) = (gogeom_reverse1_l1 N (gogeom_reverse1_e0 N n v4) v4 N) := by funext v19 v20 v28 v29; exact gogeom_reverse1_t1 N n v4 N v19 v20 v28 v29
    have h : gogeom_reverse1_e0 N n v4 = gogeom_reverse1_l0 N n v4 := by funext v19 v20 v21; exact gogeom_reverse1_t0 N n v4 v19 v20 v21
    exact (show gogeom_reverse1_e0 N (n + 1) v4 v19 v20 v21 = gogeom_reverse1_g0 N v4 (gogeom_reverse1_e1 N n v4 N) (gogeom_reverse1_e0 N n v4) v19 v20 v21 from by kernel_rfl).trans (by rw [h1, h]; rfl)
theorem gogeom_reverse1_t (N : Nat) (v1 : (List Nat)) (v2 : Int) (v3 : Int) (v4 : Int) : evF2 (gogeom_reverse1_E N) [] Try.f42 [.row 22 .float, .k (.int .i64), .k (.int .i64), .k (.int .i64)] [⟨[], [some (.row 22 .float), none, none, none]⟩] (v1, v2, v3, v4, ()) = gogeom_reverse1 N v1 v2 v3 v4 := by
  have h0 : (gogeom_reverse1_e0 N N) = (gogeom_reverse1_l0 N N) := by funext v4 v19 v20 v21; exact gogeom_reverse1_t0 N N v4 v19 v20 v21
  exact (show evF2 (gogeom_reverse1_E N) [] Try.f42 [.row 22 .float, .k (.int .i64), .k (.int .i64), .k (.int .i64)] [⟨[], [some (.row 22 .float), none, none, none]⟩] (v1, v2, v3, v4, ()) = gogeom_reverse1_g N v1 v2 v3 v4 (gogeom_reverse1_e0 N N) from by kernel_rfl).trans (by rw [h0]; rfl)
noncomputable def gogeom_reverse1_con (N : Nat) : Con2 := ⟨42, [.row 22 .float, .k (.int .i64), .k (.int .i64), .k (.int .i64)], [⟨[], [some (.row 22 .float), none, none, none]⟩], fun x => gogeom_reverse1 N x.1 x.2.1 x.2.2.1 x.2.2.2.1⟩
theorem gogeom_reverse1_s (N : Nat) : (gogeom_reverse1_con N).Sound Try.prog :=
  Con2.sound_of (c := gogeom_reverse1_con N) (E := (gogeom_reverse1_E N)) (idle := []) Try.func42 (by kernel_rfl) (by kernel_rfl) ⟨allNil, allNil⟩ allNil (fun x y h => (gogeom_reverse1_t N x.1 x.2.1 x.2.2.1 x.2.2.2.1).trans h)
/-- pub-orthodrome/pub/gogeom.DoorReverse1 -/
noncomputable def gogeom_DoorReverse1_E (N : Nat) : Env := ⟨Try.prog, N, [], [(0, ⟨[], [], [0, 1], [1000000], none⟩)], kdL [], [gogeom_reverse1_con N]⟩
def gogeom_DoorReverse1_g (N : Nat) (v1 : (List Nat)) (v2 : Int) : Option (((List Nat) × Unit)) :=
  (gogeom_reverse1 N v1 0 (v1.length : Int) v2).bind fun v3 => some (v3.1, ())
def gogeom_DoorReverse1 (N : Nat) (v1 : (List Nat)) (v2 : Int) : Option (((List Nat) × Unit)) :=
  gogeom_DoorReverse1_g N v1 v2
set_option maxRecDepth 100000
theorem gogeom_DoorReverse1_t (N : Nat) (v1 : (List Nat)) (v2 : Int) : evF2 (gogeom_DoorReverse1_E N) [] Try.f32 [.row 22 .float, .k (.int .i64)] [⟨[], [some (.row 22 .float), none]⟩] (v1, v2, ()) = gogeom_DoorReverse1 N v1 v2 := by
  exact (show evF2 (gogeom_DoorReverse1_E N) [] Try.f32 [.row 22 .float, .k (.int .i64)] [⟨[], [some (.row 22 .float), none]⟩] (v1, v2, ()) = gogeom_DoorReverse1_g N v1 v2 from by kernel_rfl).trans (by rfl)
noncomputable def gogeom_DoorReverse1_con (N : Nat) : Con2 := ⟨32, [.row 22 .float, .k (.int .i64)], [⟨[], [some (.row 22 .float), none]⟩], fun x => gogeom_DoorReverse1 N x.1 x.2.1⟩
theorem gogeom_DoorReverse1_s (N : Nat) : (gogeom_DoorReverse1_con N).Sound Try.prog :=
  Con2.sound_of (c := gogeom_DoorReverse1_con N) (E := (gogeom_DoorReverse1_E N)) (idle := []) Try.func32 (by kernel_rfl) (by kernel_rfl) ⟨allNil, (allCons (gogeom_reverse1_s N) allNil)⟩ allNil (fun x y h => (gogeom_DoorReverse1_t N x.1 x.2.1).trans h)
/-- pub-orthodrome/impl.ReverseFlat1 -/
noncomputable def impl_ReverseFlat1_E (N : Nat) : Env := ⟨Try.prog, N, [], [(0, ⟨[], [], [0, 1], [], none⟩), (1, ⟨[], [], [0, 1, 4, 5], [4, 5], none⟩), (2, ⟨[], [], [0, 1, 4, 5], [4, 5], none⟩), (3, ⟨[], [], [1, 4, 5, 6], [4, 5, 100450], none⟩), (4, ⟨[], [], [4, 5, 6], [4, 5, 100450], none⟩)], kdL [], [impl_floats_con N, gogeom_DoorReverse1_con N]⟩
def impl_ReverseFlat1_g (N : Nat) (v1 : (List Nat)) (v2 : Int) : Option (((List Nat) × Bool × Unit)) :=
  ((impl_floats N v1).bind fun v3 => ((gogeom_DoorReverse1 N v3.1 v2).bind fun v4 => (some (v4.1, true, ()))))
def impl_ReverseFlat1 (N : Nat) (v1 : (List Nat)) (v2 : Int) : Option (((List Nat) × Bool × Unit)) :=
  impl_ReverseFlat1_g N v1 v2
set_option maxRecDepth 100000
theorem impl_ReverseFlat1_t (N : Nat) (v1 : (List Nat)) (v2 : Int) : evF2 (impl_ReverseFlat1_E N) [30] Try.f15 [.k (.list .float), .k (.int .i64)] [⟨[.row 22 .float, .k .bool], [none, none]⟩] (v1, v2, ()) = impl_ReverseFlat1 N v1 v2 := by
  exact (show evF2 (impl_ReverseFlat1_E N) [30] Try.f15 [.k (.list .float), .k (.int .i64)] [⟨[.row 22 .float, .k .bool], [none, none]⟩] (v1, v2, ()) = impl_ReverseFlat1_g N v1 v2 from by kernel_rfl).trans (by rfl)
noncomputable def impl_ReverseFlat1_con (N : Nat) : Con2 := ⟨15, [.k (.list .float), .k (.int .i64)], [⟨[.row 22 .float, .k .bool], [none, none]⟩], fun x => impl_ReverseFlat1 N x.1 x.2.1⟩
theorem impl_ReverseFlat1_s (N : Nat) : (impl_ReverseFlat1_con N).Sound Try.prog :=
  Con2.sound_of (c := impl_ReverseFlat1_con N) (E := (impl_ReverseFlat1_E N)) (idle := [30]) Try.func15 (by kernel_rfl) (by kernel_rfl) ⟨allNil, (allCons (impl_floats_s N) (allCons (gogeom_DoorReverse1_s N) allNil))⟩ (allCons (idle_of Try.func30 (by kernel_rfl)) allNil) (fun x y h => (impl_ReverseFlat1_t N x.1 x.2.1).trans h)
/-- pub-orthodrome/spec.Backward -/
noncomputable def spec_Backward_E (N : Nat) : Env := ⟨Try.prog, N, [spec_Stride_con N], [(0, ⟨[], [], [0], [], none⟩), (1, ⟨[], [], [1, 2], [1, 2], none⟩), (2, ⟨[], [], [1, 2, 3], [1, 2, 3], none⟩), (3, ⟨[], [], [1, 2, 3, 4], [1, 2, 3, 26], none⟩), (4, ⟨[(4, 3, (.int .i64), 90400)], [], [1, 2, 3, 4, 28, 29, 30], [1, 2, 3, 90400], none⟩), (5, ⟨[], [], [1, 2, 3, 4, 28, 29, 30], [1, 2, 3, 90400], none⟩), (6, ⟨[], [], [1, 2, 3, 4, 6, 28, 29, 30], [1, 2, 3, 90400], none⟩), (7, ⟨[], [], [1, 2, 3, 4, 28, 29, 30], [1, 2, 3, 36], none⟩), (8, ⟨[], [], [1, 2, 3, 4], [1, 2, 3, 90400], none⟩), (9, ⟨[], [], [1, 2, 3, 4, 50], [1, 2, 3, 90400], some N⟩), (10, ⟨[], [], [1, 2, 3, 4], [1, 2, 3, 54, 90400], some N⟩), (11, ⟨[], [], [1, 2, 3, 4, 7, 8], [1, 2, 3, 54, 90400], none⟩), (12, ⟨[], [(3, 3, 22, .float, 91250)], [1, 2, 3, 7, 8, 58, 59, 60], [1, 2, 3, 54, 90400, 91250], none⟩), (13, ⟨[], [], [1, 2, 3, 7, 8, 58, 59, 60], [1, 2, 3, 54, 90400, 91250], none⟩), (14, ⟨[], [], [1, 2, 3, 7, 8, 10, 58, 59, 60], [1, 2, 3, 54, 90400, 91250], none⟩), (15, ⟨[], [(3, 3, 22, .float, 91550)], [1, 2, 3, 7, 8, 10, 11, 58, 59, 60], [1, 2, 3, 54, 90400, 91550], none⟩), (16, ⟨[], [], [1, 2, 3, 7, 8, 10, 11, 58, 59, 60], [1, 2, 3, 54, 82, 90400], none⟩), (17, ⟨[], [], [1, 2, 3, 7, 8, 10, 11, 58, 59, 60], [1, 2, 3, 54, 90400, 91550], none⟩), (18, ⟨[], [], [1, 2, 3, 7, 10, 58, 59, 60], [1, 2, 3, 54, 90400, 91550], none⟩), (19, ⟨[], [], [1, 2, 3, 7, 8, 58, 59, 60], [1, 2, 3, 54, 90400, 91550], none⟩), (20, ⟨[], [], [2, 3], [2, 3, 91250], none⟩)], kdL [(3, (.int .i64)), (22, .float)], []⟩
def spec_Backward_g4 (N : Nat) (v6 : Int) (v1 : Geo) (v4 : (List Int)) (v13 : Int) (v17 : Int) (v14 : Int) (r4 : Int → (List Nat) → Option (((Int × Int × Int × (List Nat) × (List Int) × (List (List Int)) × (List Geo) × Unit) × Unit))) (r3 : Int → Int → (List Nat) → Option (((Int × Int × Int × (List Nat) × (List Int) × (List (List Int)) × (List Geo) × Unit) × Unit))) (v19 : Int) (v20 : (List Nat)) : Option (((Int × Int × Int × (List Nat) × (List Int) × (List (List Int)) × (List Geo) × Unit) × Unit)) :=
  (bif (decide ((v19 : Int) ≥ v13)) then ((chk2 v19 (IntKind.i64.wrap (v19 + v6)) v1.flat.length).bind fun v21 => (lim ((v20.length + ((v1.flat.drop v21.1).take (v21.2 - v21.1)).length) * 8)).bind fun _ => ((r4 (IntKind.i64.wrap (v19 - v6)) (v20 ++ ((v1.flat.drop v21.1).take (v21.2 - v21.1)))))) else ((r3 v17 (IntKind.i64.wrap (v14 + 1)) v20)))
def spec_Backward_l4 (N : Nat) (r3 : Int → Int → (List Nat) → Option (((Int × Int × Int × (List Nat) × (List Int) × (List (List Int)) × (List Geo) × Unit) × Unit))) (v6 : Int) (v1 : Geo) (v4 : (List Int)) : Nat → Int → Int → Int → Int → (List Nat) → Option (((Int × Int × Int × (List Nat) × (List Int) × (List (List Int)) × (List Geo) × Unit) × Unit))
  | 0, _, _, _, _, _ => none
  | n + 1, v13, v17, v14, v19, v20 => spec_Backward_g4 N v6 v1 v4 v13 v17 v14 (spec_Backward_l4 N r3 v6 v1 v4 n v13 v17 v14) r3 v19 v20
def spec_Backward_g3 (N : Nat) (v6 : Int) (v1 : Geo) (v4 : (List Int)) (c4 : Int → Int → Int → Int → (List Nat) → Option (((Int × Int × Int × (List Nat) × (List Int) × (List (List Int)) × (List Geo) × Unit) × Unit))) (r3 : Int → Int → (List Nat) → Option (((Int × Int × Int × (List Nat) × (List Int) × (List (List Int)) × (List Geo) × Unit) × Unit))) (v13 : Int) (v14 : Int) (v15 : (List Nat)) : Option (((Int × Int × Int × (List Nat) × (List Int) × (List (List Int)) × (List Geo) × Unit) × Unit)) :=
  (bif (decide ((v14 : Int) < (([(v1.flat.length : Int)] : List Int).length : Int))) then ((chk v14 ([(v1.flat.length : Int)] : List Int).length).bind fun v16 => (([(v1.flat.length : Int)] : List Int)[v16]?).bind fun v17 => ((c4 v13 v17 v14 (IntKind.i64.wrap (v17 - v6)) v15))) else (some ((v1.kind, v1.layout, v1.srid, v15, v1.ends, v1.endss, ([] : List Geo), ()), ())))
def spec_Backward_l3 (N : Nat) : Nat → Int → Geo → (List Int) → Int → Int → (List Nat) → Option (((Int × Int × Int × (List Nat) × (List Int) × (List (List Int)) × (List Geo) × Unit) × Unit))
  | 0, _, _, _, _, _, _ => none
  | n + 1, v6, v1, v4, v13, v14, v15 => spec_Backward_g3 N v6 v1 v4 (spec_Backward_l4 N (spec_Backward_l3 N n v6 v1 v4) v6 v1 v4 N) (spec_Backward_l3 N n v6 v1 v4) v13 v14 v15
def spec_Backward_g2 (N : Nat) (v1 : Geo) (v4 : (List Int)) (c3 : Int → Geo → (List Int) → Int → Int → (List Nat) → Option (((Int × Int × Int × (List Nat) × (List Int) × (List (List Int)) × (List Geo) × Unit) × Unit))) : Option (((Int × Int × Int × (List Nat) × (List Int) × (List (List Int)) × (List Geo) × Unit) × Unit)) :=
  (spec_Stride N v1.layout).bind fun v6 => ((c3 v6 v1 v4 0 0 ([] : List Nat)))
def spec_Backward_j2 (N : Nat) (v1 : Geo) (v4 : (List Int)) : Option (((Int × Int × Int × (List Nat) × (List Int) × (List (List Int)) × (List Geo) × Unit) × Unit)) :=
  gate N (spec_Backward_g2 N v1 v4 (spec_Backward_l3 N N))
def spec_Backward_g1 (N : Nat) (v1 : Geo) (v4 : (List Int)) (c2 : Geo → (List Int) → Option (((Int × Int × Int × (List Nat) × (List Int) × (List (List Int)) × (List Geo) × Unit) × Unit))) : Option (((Int × Int × Int × (List Nat) × (List Int) × (List (List Int)) × (List Geo) × Unit) × Unit)) :=
  (c2 v1 v4)
def spec_Backward_j1 (N : Nat) (v1 : Geo) (v4 : (List Int)) : Option (((Int × Int × Int × (List Nat) × (List Int) × (List (List Int)) × (List Geo) × Unit) × Unit)) :=
  gate N (spec_Backward_g1 N v1 v4 (spec_Backward_j2 N))
def spec_Backward_g6 (N : Nat) (v22 : Int) (v4 : (List Int)) (v1 : Geo) (v29 : Int) (v33 : Int) (v30 : Int) (r6 : Int → (List Nat) → Option (((Int × Int × Int × (List Nat) × (List Int) × (List (List Int)) × (List Geo) × Unit) × Unit))) (r5 : Int → Int → (List Nat) → Option (((Int × Int × Int × (List Nat) × (List Int) × (List (List Int)) × (List Geo) × Unit) × Unit))) (v35 : Int) (v36 : (List Nat)) : Option (((Int × Int × Int × (List Nat) × (List Int) × (List (List Int)) × (List Geo) × Unit) × Unit)) :=
  (bif (decide ((v35 : Int) ≥ v29)) then ((chk2 v35 (IntKind.i64.wrap (v35 + v22)) v1.flat.length).bind fun v37 => (lim ((v36.length + ((v1.flat.drop v37.1).take (v37.2 - v37.1)).length) * 8)).bind fun _ => ((r6 (IntKind.i64.wrap (v35 - v22)) (v36 ++ ((v1.flat.drop v37.1).take (v37.2 - v37.1)))))) else ((r5 v33 (IntKind.i64.wrap (v30 + 1)) v36)))
def spec_Backward_l6 (N : Nat) (r5 : Int → Int → (List Nat) → Option (((Int × Int × Int × (List Nat) × (List Int) × (List (List Int)) × (List Geo) × Unit) × Unit))) (v22 : Int) (v4 : (List Int)) (v1 : Geo) : Nat → Int → Int → Int → Int → (List Nat) → Option (((Int × Int × Int × (List Nat) × (List Int) × (List (List Int)) × (List Geo) × Unit) × Unit))
  | 0, _, _, _, _, _ => none
  | n + 1, v29, v33, v30, v35, v36 => spec_Backward_g6 N v22 v4 v1 v29 v33 v30 (spec_Backward_l6 N r5 v22 v4 v1 n v29 v33 v30) r5 v35 v36
def spec_Backward_g5 (N : Nat) (v22 : Int) (v4 : (List Int)) (v1 : Geo) (c6 : Int → Int → Int → Int → (List Nat) → Option (((Int × Int × Int × (List Nat) × (List Int) × (List (List Int)) × (List Geo) × Unit) × Unit))) (r5 : Int → Int → (List Nat) → Option (((Int × Int × Int × (List Nat) × (List Int) × (List (List Int)) × (List Geo) × Unit) × Unit))) (v29 : Int) (v30 : Int) (v31 : (List Nat)) : Option (((Int × Int × Int × (List Nat) × (List Int) × (List (List Int)) × (List Geo) × Unit) × Unit)) :=
  (bif (decide ((v30 : Int) < (v4.length : Int))) then ((chk v30 v4.length).bind fun v32 => (v4[v32]?).bind fun v33 => ((c6 v29 v33 v30 (IntKind.i64.wrap (v33 - v22)) v31))) else (some ((v1.kind, v1.layout, v1.srid, v31, v1.ends, v1.endss, ([] : List Geo), ()), ())))
def spec_Backward_l5 (N : Nat) : Nat → Int → (List Int) → Geo → Int → Int → (List Nat) → Option (((Int × Int × Int × (List Nat) × (List Int) × (List (List Int)) × (List Geo) × Unit) × Unit))
  | 0, _, _, _, _, _, _ => none
  | n + 1, v22, v4, v1, v29, v30, v31 => spec_Backward_g5 N v22 v4 v1 (spec_Backward_l6 N (spec_Backward_l5 N n v22 v4 v1) v22 v4 v1 N) (spec_Backward_l5 N n v22 v4 v1) v29 v30 v31
def spec_Backward_g0 (N : Nat) (v1 : Geo) (c1 : Geo → (List Int) → Option (((Int × Int × Int × (List Nat) × (List Int) × (List (List Int)) × (List Geo) × Unit) × Unit))) (c2 : Geo → (List Int) → Option (((Int × Int × Int × (List Nat) × (List Int) × (List (List Int)) × (List Geo) × Unit) × Unit))) (c5 : Int → (List Int) → Geo → Int → Int → (List Nat) → Option (((Int × Int × Int × (List Nat) × (List Int) × (List (List Int)) × (List Geo) × Unit) × Unit))) (r0 : Int → (List Int) → Option (((Int × Int × Int × (List Nat) × (List Int) × (List (List Int)) × (List Geo) × Unit) × Unit))) (v3 : Int) (v4 : (List Int)) : Option (((Int × Int × Int × (List Nat) × (List Int) × (List (List Int)) × (List Geo) × Unit) × Unit)) :=
  (bif (decide ((v3 : Int) < (v1.endss.length : Int))) then ((nth v1.endss v3).bind fun v5 => ((lim ((v4.length + v5.length) * 8)).bind fun _ => ((r0 (IntKind.i64.wrap (v3 + 1)) (v4 ++ v5))))) else (bif (v1.kind == 1) then (c1 v1 v4) else (bif (v1.kind == 2) then (c1 v1 v4) else (gate N (bif (v1.kind == 8) then (c2 v1 v4) else (gate N ((spec_Stride N v1.layout).bind fun v22 => ((c5 v22 v4 v1 0 0 ([] : List Nat))))))))))
def spec_Backward_l0 (N : Nat) : Nat → Geo → Int → (List Int) → Option (((Int × Int × Int × (List Nat) × (List Int) × (List (List Int)) × (List Geo) × Unit) × Unit))
  | 0, _, _, _ => none
  | n + 1, v1, v3, v4 => spec_Backward_g0 N v1 (spec_Backward_j1 N) (spec_Backward_j2 N) (spec_Backward_l5 N N) (spec_Backward_l0 N n v1) v3 v4
def spec_Backward_g (N : Nat) (v1 : Geo) (c0 : Geo → Int → (List Int) → Option (((Int × Int × Int × (List Nat) × (List Int) × (List (List Int)) × (List Geo) × Unit) × Unit))) : Option (((Int × Int × Int × (List Nat) × (List Int) × (List (List Int)) × (List Geo) × Unit) × Unit)) :=
  ((lim ((([] : List Int).length + v1.ends.length) * 8)).bind fun _ => ((c0 v1 0 (([] : List Int) ++ v1.ends))))
def spec_Backward (N : Nat) (v1 : Geo) : Option (((Int × Int × Int × (List Nat) × (List Int) × (List (List Int)) × (List Geo) × Unit) × Unit)) :=
  spec_Backward_g N v1 (spec_Backward_l0 N N)
set_option maxRecDepth 100000
noncomputable def spec_Backward_e4 (N : Nat) (m3 : Nat) (v6 : Int) (v1 : Geo) (v4 : (List Int)) (n : Nat) (v13 : Int) (v17 : Int) (v14 : Int) (v19 : Int) (v20 : (List Nat)) : Option (AltD [⟨[.agg [.k (.int .i64), .k (.int .i64), .k (.int .i64), .row 22 .float, .k (.list (.int .i64)), .k (.list (.list (.int .i64))), .row 34 .geo]], [none]⟩]) :=
  loopN (advOf (spec_Backward_E N) (codeAt (bodyOf Try.f17) [1, 1, 1, 1, 1, 1, 0, 1, 0, 0, 1, 1, 0, 0, 1, 0, 1, 0, 0])) (evC (spec_Backward_E N) (codeAt (bodyOf Try.f17) [1, 1, 1, 1, 1, 1, 0, 1, 0, 0, 1, 1, 0, 0, 1, 0, 1, 0, 0])) n ⟨[(1, .ref 1 0), (2, .ref 2 0), (3, .ref 3 0), (7, .pv (.int .i64) v6), (8, .pv (.int .i64) v13), (10, .pv (.int .i64) v17), (11, .pv (.int .i64) v19), (58, .own (.int .i64) 54), (59, .pv (.int .i64) (([(v1.flat.length : Int)] : List Int).length : Int)), (60, .pv (.int .i64) v14)], [(1, .box [.pv (.int .i64) v1.kind, .pv (.int .i64) v1.layout, .pv (.int .i64) v1.srid, .pv (.list .float) v1.flat, .pv (.list (.int .i64)) v1.ends, .pv (.list (.list (.int .i64))) v1.endss, .pv (.list .geo) v1.kids]), (2, .box [.pv (.int .i64) 0, .pv (.int .i64) 0, .pv (.int .i64) 0, .nils, .nils, .nils, .nils]), (3, .box [.pv (.int .i64) v1.kind, .pv (.int .i64) v1.layout, .pv (.int .i64) v1.srid, .own .float 91550, .pv (.list (.int .i64)) v1.ends, .pv (.list (.list (.int .i64))) v1.endss, .nils]), (54, .arr 3 (.int .i64) ([(v1.flat.length : Int)] : List Int)), (90400, .arr 3 (.int .i64) v4), (91550, .arr 22 .float v20)], []⟩ (kBlock 4 (kSeq (advOf (spec_Backward_E N) (codeAt (bodyOf Try.f17) [1, 1, 1, 1, 1, 1, 0, 1, 0, 0, 1, 1, 0, 0, 1, 1])) (evC (spec_Backward_E N) (codeAt (bodyOf Try.f17) [1, 1, 1, 1, 1, 1, 0, 1, 0, 0, 1, 1, 0, 0, 1, 1])) (kBlock 3 (kSeq (advOf (spec_Backward_E N) (codeAt (bodyOf Try.f17) [1, 1, 1, 1, 1, 1, 0, 1, 0, 0, 1, 1, 1])) (evC (spec_Backward_E N) (codeAt (bodyOf Try.f17) [1, 1, 1, 1, 1, 1, 0, 1, 0, 0, 1, 1, 1])) (kSeq (advOf (spec_Backward_E N) (codeAt (bodyOf Try.f17) [1, 1, 1, 1, 1, 1, 0, 1, 0, 0])) (fun st K => loopN (advOf (spec_Backward_E N) (codeAt (bodyOf Try.f17) [1, 1, 1, 1, 1, 1, 0, 1, 0, 0])) (evC (spec_Backward_E N) (codeAt (bodyOf Try.f17) [1, 1, 1, 1, 1, 1, 0, 1, 0, 0])) m3 st K) (kBlock 2 (kSeq (advOf (spec_Backward_E N) (codeAt (bodyOf Try.f17) [1, 1, 1, 1, 1, 1, 1])) (evC (spec_Backward_E N) (codeAt (bodyOf Try.f17) [1, 1, 1, 1, 1, 1, 1])) (kEnd2 (spec_Backward_E N) [] Try.f17.results.toList [⟨[.agg [.k (.int .i64), .k (.int .i64), .k (.int .i64), .row 22 .float, .k (.list (.int .i64)), .k (.list (.list (.int .i64))), .row 34 .geo]], [none]⟩] [.dead]))))))))
noncomputable def spec_Backward_e3 (N : Nat) (n : Nat) (v6 : Int) (v1 : Geo) (v4 : (List Int)) (v13 : Int) (v14 : Int) (v15 : (List Nat)) : Option (AltD [⟨[.agg [.k (.int .i64), .k (.int .i64), .k (.int .i64), .row 22 .float, .k (.list (.int .i64)), .k (.list (.list (.int .i64))), .row 34 .geo]], [none]⟩]) :=
  loopN (advOf (spec_Backward_E N) (codeAt (bodyOf Try.f17) [1, 1, 1, 1, 1, 1, 0, 1, 0, 0])) (evC (spec_Backward_E N) (codeAt (bodyOf Try.f17) [1, 1, 1, 1, 1, 1, 0, 1, 0, 0])) n ⟨[(1, .ref 1 0), (2, .ref 2 0), (3, .ref 3 0), (7, .pv (.int .i64) v6), (8, .pv (.int .i64) v13), (58, .own (.int .i64) 54), (59, .pv (.int .i64) (([(v1.flat.length : Int)] : List Int).length : Int)), (60, .pv (.int .i64) v14)], [(1, .box [.pv (.int .i64) v1.kind, .pv (.int .i64) v1.layout, .pv (.int .i64) v1.srid, .pv (.list .float) v1.flat, .pv (.list (.int .i64)) v1.ends, .pv (.list (.list (.int .i64))) v1.endss, .pv (.list .geo) v1.kids]), (2, .box [.pv (.int .i64) 0, .pv (.int .i64) 0, .pv (.int .i64) 0, .nils, .nils, .nils, .nils]), (3, .box [.pv (.int .i64) v1.kind, .pv (.int .i64) v1.layout, .pv (.int .i64) v1.srid, .own .float 91250, .pv (.list (.int .i64)) v1.ends, .pv (.list (.list (.int .i64))) v1.endss, .nils]), (54, .arr 3 (.int .i64) ([(v1.flat.length : Int)] : List Int)), (90400, .arr 3 (.int .i64) v4), (91250, .arr 22 .float v15)], []⟩ (kBlock 2 (kSeq (advOf (spec_Backward_E N) (codeAt (bodyOf Try.f17) [1, 1, 1, 1, 1, 1, 1])) (evC (spec_Backward_E N) (codeAt (bodyOf Try.f17) [1, 1, 1, 1, 1, 1, 1])) (kEnd2 (spec_Backward_E N) [] Try.f17.results.toList [⟨[.agg [.k (.int .i64), .k (.int .i64), .k (.int .i64), .row 22 .float, .k (.list (.int .i64)), .k (.list (.list (.int .i64))), .row 34 .geo]], [none]⟩] [.dead])))
noncomputable def spec_Backward_e2 (N : Nat) (v1 : Geo) (v4 : (List Int)) : Option (AltD [⟨[.agg [.k (.int .i64), .k (.int .i64), .k (.int .i64), .row 22 .float, .k (.list (.int .i64)), .k (.list (.list (.int .i64))), .row 34 .geo]], [none]⟩]) :=
  gate N (evC (spec_Backward_E N) (codeAt (bodyOf Try.f17) [1, 1, 1, 1, 1]) ⟨[(1, .ref 1 0), (2, .ref 2 0), (3, .ref 3 0), (4, .own (.int .i64) 54)], [(1, .box [.pv (.int .i64) v1.kind, .pv (.int .i64) v1.layout, .pv (.int .i64) v1.srid, .pv (.list .float) v1.flat, .pv (.list (.int .i64)) v1.ends, .pv (.list (.list (.int .i64))) v1.endss, .pv (.list .geo) v1.kids]), (2, .box [.pv (.int .i64) 0, .pv (.int .i64) 0, .pv (.int .i64) 0, .nils, .nils, .nils, .nils]), (3, .box [.pv (.int .i64) v1.kind, .pv (.int .i64) v1.layout, .pv (.int .i64) v1.srid, .nils, .pv (.list (.int .i64)) v1.ends, .pv (.list (.list (.int .i64))) v1.endss, .nils]), (54, .arr 3 (.int .i64) ([(v1.flat.length : Int)] : List Int)), (90400, .arr 3 (.int .i64) v4)], []⟩ (kEnd2 (spec_Backward_E N) [] Try.f17.results.toList [⟨[.agg [.k (.int .i64), .k (.int .i64), .k (.int .i64), .row 22 .float, .k (.list (.int .i64)), .k (.list (.list (.int .i64))), .row 34 .geo]], [none]⟩] [.dead]))
noncomputable def spec_Backward_e1 (N : Nat) (v1 : Geo) (v4 : (List Int)) : Option (AltD [⟨[.agg [.k (.int .i64), .k (.int .i64), .k (.int .i64), .row 22 .float, .k (.list (.int .i64)), .k (.list (.list (.int .i64))), .row 34 .geo]], [none]⟩]) :=
  gate N (evC (spec_Backward_E N) (codeAt (bodyOf Try.f17) [1, 1, 1, 1, 0, 1]) ⟨[(1, .ref 1 0), (2, .ref 2 0), (3, .ref 3 0), (4, .own (.int .i64) 90400), (50, .pv .bool true)], [(1, .box [.pv (.int .i64) v1.kind, .pv (.int .i64) v1.layout, .pv (.int .i64) v1.srid, .pv (.list .float) v1.flat, .pv (.list (.int .i64)) v1.ends, .pv (.list (.list (.int .i64))) v1.endss, .pv (.list .geo) v1.kids]), (2, .box [.pv (.int .i64) 0, .pv (.int .i64) 0, .pv (.int .i64) 0, .nils, .nils, .nils, .nils]), (3, .box [.pv (.int .i64) v1.kind, .pv (.int .i64) v1.layout, .pv (.int .i64) v1.srid, .nils, .pv (.list (.int .i64)) v1.ends, .pv (.list (.list (.int .i64))) v1.endss, .nils]), (90400, .arr 3 (.int .i64) v4)], []⟩ (kSeq (advOf (spec_Backward_E N) (codeAt (bodyOf Try.f17) [1, 1, 1, 1, 1])) (evC (spec_Backward_E N) (codeAt (bodyOf Try.f17) [1, 1, 1, 1, 1])) (kEnd2 (spec_Backward_E N) [] Try.f17.results.toList [⟨[.agg [.k (.int .i64), .k (.int .i64), .k (.int .i64), .row 22 .float, .k (.list (.int .i64)), .k (.list (.list (.int .i64))), .row 34 .geo]], [none]⟩] [.dead])))
noncomputable def spec_Backward_e6 (N : Nat) (m5 : Nat) (v22 : Int) (v4 : (List Int)) (v1 : Geo) (n : Nat) (v29 : Int) (v33 : Int) (v30 : Int) (v35 : Int) (v36 : (List Nat)) : Option (AltD [⟨[.agg [.k (.int .i64), .k (.int .i64), .k (.int .i64), .row 22 .float, .k (.list (.int .i64)), .k (.list (.list (.int .i64))), .row 34 .geo]], [none]⟩]) :=
  loopN (advOf (spec_Backward_E N) (codeAt (bodyOf Try.f17) [1, 1, 1, 1, 1, 1, 0, 1, 0, 0, 1, 1, 0, 0, 1, 0, 1, 0, 0])) (evC (spec_Backward_E N) (codeAt (bodyOf Try.f17) [1, 1, 1, 1, 1, 1, 0, 1, 0, 0, 1, 1, 0, 0, 1, 0, 1, 0, 0])) n ⟨[(1, .ref 1 0), (2, .ref 2 0), (3, .ref 3 0), (7, .pv (.int .i64) v22), (8, .pv (.int .i64) v29), (10, .pv (.int .i64) v33), (11, .pv (.int .i64) v35), (58, .own (.int .i64) 90400), (59, .pv (.int .i64) (v4.length : Int)), (60, .pv (.int .i64) v30)], [(1, .box [.pv (.int .i64) v1.kind, .pv (.int .i64) v1.layout, .pv (.int .i64) v1.srid, .pv (.list .float) v1.flat, .pv (.list (.int .i64)) v1.ends, .pv (.list (.list (.int .i64))) v1.endss, .pv (.list .geo) v1.kids]), (2, .box [.pv (.int .i64) 0, .pv (.int .i64) 0, .pv (.int .i64) 0, .nils, .nils, .nils, .nils]), (3, .box [.pv (.int .i64) v1.kind, .pv (.int .i64) v1.layout, .pv (.int .i64) v1.srid, .own .float 91550, .pv (.list (.int .i64)) v1.ends, .pv (.list (.list (.int .i64))) v1.endss, .nils]), (54, .gone), (90400, .arr 3 (.int .i64) v4), (91550, .arr 22 .float v36)], []⟩ (kBlock 4 (kSeq (advOf (spec_Backward_E N) (codeAt (bodyOf Try.f17) [1, 1, 1, 1, 1, 1, 0, 1, 0, 0, 1, 1, 0, 0, 1, 1])) (evC (spec_Backward_E N) (codeAt (bodyOf Try.f17) [1, 1, 1, 1, 1, 1, 0, 1, 0, 0, 1, 1, 0, 0, 1, 1])) (kBlock 3 (kSeq (advOf (spec_Backward_E N) (codeAt (bodyOf Try.f17) [1, 1, 1, 1, 1, 1, 0, 1, 0, 0, 1, 1, 1])) (evC (spec_Backward_E N) (codeAt (bodyOf Try.f17) [1, 1, 1, 1, 1, 1, 0, 1, 0, 0, 1, 1, 1])) (kSeq (advOf (spec_Backward_E N) (codeAt (bodyOf Try.f17) [1, 1, 1, 1, 1, 1, 0, 1, 0, 0])) (fun st K => loopN (advOf (spec_Backward_E N) (codeAt (bodyOf Try.f17) [1, 1, 1, 1, 1, 1, 0, 1, 0, 0])) (evC (spec_Backward_E N) (codeAt (bodyOf Try.f17) [1, 1, 1, 1, 1, 1, 0, 1, 0, 0])) m5 st K) (kBlock 2 (kSeq (advOf (spec_Backward_E N) (codeAt (bodyOf Try.f17) [1, 1, 1, 1, 1, 1, 1])) (evC (spec_Backward_E N) (codeAt (bodyOf Try.f17) [1, 1, 1, 1, 1, 1, 1])) (kEnd2 (spec_Backward_E N) [] Try.f17.results.toList [⟨[.agg [.k (.int .i64), .k (.int .i64), .k (.int .i64), .row 22 .float, .k (.list (.int .i64)), .k (.list (.list (.int .i64))), .row 34 .geo]], [none]⟩] [.dead]))))))))
noncomputable def spec_Backward_e5 (N : Nat) (n : Nat) (v22 : Int) (v4 : (List Int)) (v1 : Geo) (v29 : Int) (v30 : Int) (v31 : (List Nat)) : Option (AltD [⟨[.agg [.k (.int .i64), .k (.int .i64), .k (.int .i64), .row 22 .float, .k (.list (.int .i64)), .k (.list (.list (.int .i64))), .row 34 .geo]], [none]⟩]) :=
  loopN (advOf (spec_Backward_E N) (codeAt (bodyOf Try.f17) [1, 1, 1, 1, 1, 1, 0, 1, 0, 0])) (evC (spec_Backward_E N) (codeAt (bodyOf Try.f17) [1, 1, 1, 1, 1, 1, 0, 1, 0, 0])) n ⟨[(1, .ref 1 0), (2, .ref 2 0), (3, .ref 3 0), (7, .pv (.int .i64) v22), (8, .pv (.int .i64) v29), (58, .own (.int .i64) 90400), (59, .pv (.int .i64) (v4.length : Int)), (60, .pv (.int .i64) v30)], [(1, .box [.pv (.int .i64) v1.kind, .pv (.int .i64) v1.layout, .pv (.int .i64) v1.srid, .pv (.list .float) v1.flat, .pv (.list (.int .i64)) v1.ends, .pv (.list (.list (.int .i64))) v1.endss, .pv (.list .geo) v1.kids]), (2, .box [.pv (.int .i64) 0, .pv (.int .i64) 0, .pv (.int .i64) 0, .nils, .nils, .nils, .nils]), (3, .box [.pv (.int .i64) v1.kind, .pv (.int .i64) v1.layout, .pv (.int .i64) v1.srid, .own .float 91250, .pv (.list (.int .i64)) v1.ends, .pv (.list (.list (.int .i64))) v1.endss, .nils]), (54, .gone), (90400, .arr 3 (.int .i64) v4), (91250, .arr 22 .float v31)], []⟩ (kBlock 2 (kSeq (advOf (spec_Backward_E N) (codeAt (bodyOf Try.f17) [1, 1, 1, 1, 1, 1, 1])) (evC (spec_Backward_E N) (codeAt (bodyOf Try.f17) [1, 1, 1, 1, 1, 1, 1])) (kEnd2 (spec_Backward_E N) [] Try.f17.results.toList [⟨[.agg [.k (.int .i64), .k (.int .i64), .k (.int .i64), .row 22 .float, .k (.list (.int .i64)), .k (.list (.list (.int .i64))), .row 34 .geo]], [none]⟩] [.dead])))
noncomputable def spec_Backward_e0 (N : Nat) (n : Nat) (v1 : Geo) (v3 : Int) (v4 : (List Int)) : Option (AltD [⟨[.agg [.k (.int .i64), .k (.int .i64), .k (.int .i64), .row 22 .float, .k (.list (.int .i64)), .k (.list (.list (.int .i64))), .row 34 .geo]], [none]⟩]) :=
  loopN (advOf (spec_Backward_E N) (codeAt (bodyOf Try.f17) [1, 1, 1, 0, 1, 0, 0])) (evC (spec_Backward_E N) (codeAt (bodyOf Try.f17) [1, 1, 1, 0, 1, 0, 0])) n ⟨[(1, .ref 1 0), (2, .ref 2 0), (3, .ref 3 0), (4, .own (.int .i64) 90400), (28, .pv (.list (.list (.int .i64))) v1.endss), (29, .pv (.int .i64) (v1.endss.length : Int)), (30, .pv (.int .i64) v3)], [(1, .box [.pv (.int .i64) v1.kind, .pv (.int .i64) v1.layout, .pv (.int .i64) v1.srid, .pv (.list .float) v1.flat, .pv (.list (.int .i64)) v1.ends, .pv (.list (.list (.int .i64))) v1.endss, .pv (.list .geo) v1.kids]), (2, .box [.pv (.int .i64) 0, .pv (.int .i64) 0, .pv (.int .i64) 0, .nils, .nils, .nils, .nils]), (3, .box [.pv (.int .i64) v1.kind, .pv (.int .i64) v1.layout, .pv (.int .i64) v1.srid, .nils, .pv (.list (.int .i64)) v1.ends, .pv (.list (.list (.int .i64))) v1.endss, .nils]), (90400, .arr 3 (.int .i64) v4)], []⟩ (kBlock 0 (kSeq (advOf (spec_Backward_E N) (codeAt (bodyOf Try.f17) [1, 1, 1, 1])) (evC (spec_Backward_E N) (codeAt (bodyOf Try.f17) [1, 1, 1, 1])) (kEnd2 (spec_Backward_E N) [] Try.f17.results.toList [⟨[.agg [.k (.int .i64), .k (.int .i64), .k (.int .i64), .row 22 .float, .k (.list (.int .i64)), .k (.list (.list (.int .i64))), .row 34 .geo]], [none]⟩] [.dead])))
theorem spec_Backward_t4 (N : Nat) (m3 : Nat) (v6 : Int) (v1 : Geo) (v4 : (List Int)) : ∀ (n : Nat) (v13 : Int) (v17 : Int) (v14 : Int) (v19 : Int) (v20 : (List Nat)), spec_Backward_e4 N m3 v6 v1 v4 n v13 v17 v14 v19 v20 = spec_Backward_l4 N (spec_Backward_e3 N m3 v6 v1 v4) v6 v1 v4 n v13 v17 v14 v19 v20
  | 0, _, _, _, _, _ => rfl
  | n + 1, v13, v17, v14, v19, v20 => by
    have h : spec_Backward_e4 N m3 v6 v1 v4 n v13 v17 v14 = spec_Backward_l4 N (spec_Backward_e3 N m3 v6 v1 v4) v6 v1 v4 n v13 v17 v14 := by funext v19 v20; exact spec_Backward_t4 N m3 v6 v1 v4 n v13 v17 v14 v19 v20
    exact (show spec_Backward_e4 N m3 v6 v1 v4 (n + 1) v13 v17 v14 v19 v20 = spec_Backward_g4 N v6 v1 v4 v13 v17 v14 (spec_Backward_e4 N m3 v6 v1 v4 n v13 v17 v14) (spec_Backward_e3 N m3 v6 v1 v4) v19 v20 from by kernel_rfl).trans (by rw [h]; rfl)
theorem spec_Backward_t3 (N : Nat) : ∀ (n : Nat) (v6 : Int) (v1 : Geo) (v4 : (List Int)) (v13 : Int) (v14 : Int) (v15 : (List Nat)), spec_Backward_e3 N n v6 v1 v4 v13 v14 v15 = spec_Backward_l3 N n v6 v1 v4 v13 v14 v15
  | 0, _, _, _, _, _, _ => rfl
  | n + 1, v6, v1, v4, v13, v14, v15 => by
    have h4 : (spec_Backward_e4 N n v6 v1 v4 N) = (spec_Backward_l4 N (spec_Backward_e3 N n v6 v1 v4) v6 v1 v4 N) := by funext v13 v17 v14 v19 v20; exact spec_Backward_t4 N n v6 v1 v4 N v13 v17 v14 v19 v20
    have h : spec_Backward_e3 N n v6 v1 v4 = spec_Backward_l3 N n v6 v1 v4 := by funext v13 v14 v15; exact spec_Backward_t3 N n v6 v1 v4 v13 v14 v15
    exact (show spec_Backward_e3 N (n + 1) v6 v1 v4 v13 v14 v15 = spec_Backward_g3 N v6 v1 v4 (spec_Backward_e4 N n v6 v1 v4 N) (spec_Backward_e3 N n v6 v1 v4) v13 v14 v15 from by kernel_rfl).trans (by rw [h4, h]; rfl)
theorem spec_Backward_t2 (N : Nat) (v1 : Geo) (v4 : (List Int)) : spec_Backward_e2 N v1 v4 = spec_Backward_j2 N v1 v4 := by
  have h3 : (spec_Backward_e3 N N) = (spec_Backward_l3 N N) := by funext v6 v1 v4 v13 v14 v15; exact spec_Backward_t3 N N v6 v1 v4 v13 v14 v15
  exact (congrArg (gate N) (show evC (spec_Backward_E N) (codeAt (bodyOf Try.f17) [1, 1, 1, 1, 1]) ⟨[(1, .ref 1 0), (2, .ref 2 0), (3, .ref 3 0), (4, .own (.int .i64) 54)], [(1, .box [.pv (.int .i64) v1.kind, .pv (.int .i64) v1.layout, .pv (.int .i64) v1.srid, .pv (.list .float) v1.flat, .pv (.list (.int .i64)) v1.ends, .pv (.list (.list (.int .i64))) v1.endss, .pv (.list .geo) v1.kids]), (2, .box [.pv (.int .i64) 0, .pv (.int .i64) 0, .pv (.int .i64) 0, .nils, .nils, .nils, .nils]), (3, .box [.pv (.int .i64) v1.kind, .pv (.int .i64) v1.layout, .pv (.int .i64) v1.srid, .nils, .pv (.list (.int .i64)) v1.ends, .pv (.list (.list (.int .i64))) v1.endss, .nils]), (54, .arr 3 (.int .i64) ([(v1.flat.length : Int)] : List Int)), (90400, .arr 3 (.int .i64) v4)], []⟩ (kEnd2 (spec_Backward_E N) [] Try.f17.results.toList [⟨[.agg [.k (.int .i64), .k (.int .i64), .k (.int .i64), .row 22 .float, .k (.list (.int .i64)), .k (.list (.list (.int .i64))), .row 34 .geo]], [none]⟩] [.dead]) = spec_Backward_g2 N v1 v4 (spec_Backward_e3 N N) from by kernel_rfl)).trans (by rw [h3]; rfl)
theorem spec_Backward_t1 (N : Nat) (v1 : Geo) (v4 : (List Int)) : spec_Backward_e1 N v1 v4 = spec_Backward_j1 N v1 v4 := by
  have h2 : (spec_Backward_e2 N) = (spec_Backward_j2 N) := by funext v1 v4; exact spec_Backward_t2 N v1 v4
  exact (congrArg (gate N) (show evC (spec_Backward_E N) (codeAt (bodyOf Try.f17) [1, 1, 1, 1, 0, 1]) ⟨[(1, .ref 1 0), (2, .ref 2 0), (3, .ref 3 0), (4, .own (.int .i64) 90400), (50, .pv .bool true)], [(1, .box [.pv (.int .i64) v1.kind, .pv (.int .i64) v1.layout, .pv (.int .i64) v1.srid, .pv (.list .float) v1.flat, .pv (.list (.int .i64)) v1.ends, .pv (.list (.list (.int .i64))) v1.endss, .pv (.list .geo) v1.kids]), (2, .box [.pv (.int .i64) 0, .pv (.int .i64) 0, .pv (.int .i64) 0, .nils, .nils, .nils, .nils]), (3, .box [.pv (.int .i64) v1.kind, .pv (.int .i64) v1.layout, .pv (.int .i64) v1.srid, .nils, .pv (.list (.int .i64)) v1.ends, .pv (.list (.list (.int .i64))) v1.endss, .nils]), (90400, .arr 3 (.int .i64) v4)], []⟩ (kSeq (advOf (spec_Backward_E N) (codeAt (bodyOf Try.f17) [1, 1, 1, 1, 1])) (evC (spec_Backward_E N) (codeAt (bodyOf Try.f17) [1, 1, 1, 1, 1])) (kEnd2 (spec_Backward_E N) [] Try.f17.results.toList [⟨[.agg [.k (.int .i64), .k (.int .i64), .k (.int .i64), .row 22 .float, .k (.list (.int .i64)), .k (.list (.list (.int .i64))), .row 34 .geo]], [none]⟩] [.dead])) = spec_Backward_g1 N v1 v4 (spec_Backward_e2 N) from by kernel_rfl)).trans (by rw [h2]; rfl)
theorem spec_Backward_t6 (N : Nat) (m5 : Nat) (v22 : Int) (v4 : (List Int)) (v1 : Geo) : ∀ (n : Nat) (v29 : Int) (v33 : Int) (v30 : Int) (v35 : Int) (v36 : (List Nat)), spec_Backward_e6 N m5 v22 v4 v1 n v29 v33 v30 v35 v36 = spec_Backward_l6 N (spec_Backward_e5 N m5 v22 v4 v1) v22 v4 v1 n v29 v33 v30 v35 v36
  | 0, _, _, _, _, _ => rfl
  | n + 1, v29, v33, v30, v35, v36 => by
    have h : spec_Backward_e6 N m5 v22 v4 v1 n v29 v33 v30 = spec_Backward_l6 N (spec_Backward_e5 N m5 v22 v4 v1) v22 v4 v1 n v29 v33 v30 := by funext v35 v36; exact spec_Backward_t6 N m5 v22 v4 v1 n v29 v33 v30 v35 v36
    exact (show spec_Backward_e6 N m5 v22 v4 v1 (n + 1) v29 v33 v30 v35 v36 = spec_Backward_g6 N v22 v4 v1 v29 v33 v30 (spec_Backward_e6 N m5 v22 v4 v1 n v29 v33 v30) (spec_Backward_e5 N m5 v22 v4 v1) v35 v36 from by kernel_rfl).trans (by rw [h]; rfl)
theorem spec_Backward_t5 (N : Nat) : ∀ (n : Nat) (v22 : Int) (v4 : (List Int)) (v1 : Geo) (v29 : Int) (v30 : Int) (v31 : (List Nat)), spec_Backward_e5 N n v22 v4 v1 v29 v30 v31 = spec_Backward_l5 N n v22 v4 v1 v29 v30 v31
  | 0, _, _, _, _, _, _ => rfl
  | n + 1, v22, v4, v1, v29, v30, v31 => by
    have h6 : (spec_Backward_e6 N n v22 v4 v1 N) = (spec_Backward_l6 N (spec_Backward_e5 N n v22 v4 v1) v22 v4 v1 N) := by funext v29 v33 v30 v35 v36; exact spec_Backward_t6 N n v22 v4 v1 N v29 v33 v30 v35 v36
    have h : spec_Backward_e5 N n v22 v4 v1 = spec_Backward_l5 N n v22 v4 v1 := by funext v29 v30 v31; exact spec_Backward_t5 N n v22 v4 v1 v29 v30 v31
    exact (show spec_Backward_e5 N (n + 1) v22 v4 v1 v29 v30 v31 = spec_Backward_g5 N v22 v4 v1 (spec_Backward_e6 N n v22 v4 v1 N) (spec_Backward_e5 N n v22 v4 v1) v29 v30 v31 from by kernel_rfl).trans (by rw [h6, h]; rfl)
theorem spec_Backward_t0 (N : Nat) : ∀ (n : Nat) (v1 : Geo) (v3 : Int) (v4 : (List Int)), spec_Backward_e0 N n v1 v3 v4 = spec_Backward_l0 N n v1 v3 v4
  | 0, _, _, _ => rfl
  | n + 1, v1, v3, v4 => by
    have h1 : (spec_Backward_e1 N) = (spec_Backward_j1 N) := by funext v1 v4; exact spec_Backward_t1 N v1 v4
    have h2 : (spec_Backward_e2 N) = (spec_Backward_j2 N) := by funext v1 v4; exact spec_Backward_t2 N v1 v4
    have h5 : (spec_Backward_e5 N N) = (spec_Backward_l5 N N) := by funext v22 v4 v1 v29 v30 v31; exact spec_Backward_t5 N N v22 v4 v1 v29 v30 v31
    have h : spec_Backward_e0 N n v1 = spec_Backward_l0 N n v1 := by funext v3 v4; exact spec_Backward_t0 N n v1 v3 v4
    exact (show spec_Backward_e0 N (n + 1) v1 v3 v4 = spec_Backward_g0 N v1 (spec_Backward_e1 N) (spec_Backward_e2 N) (spec_Backward_e5 N N) (spec_Backward_e0 N n v1) v3 v4 from by kernel_rfl).trans (by rw [h1, h2, h5, h]; rfl)
theorem spec_Backward_t (N : Nat) (v1 : Geo) : evF2 (spec_Backward_E N) [] Try.f17 [.k .geo] [⟨[.agg [.k (.int .i64), .k (.int .i64), .k (.int .i64), .row 22 .float, .k (.list (.int .i64)), .k (.list (.list (.int .i64))), .row 34 .geo]], [none]⟩] (v1, ()) = spec_Backward N v1 := by
  have h0 : (spec_Backward_e0 N N) = (spec_Backward_l0 N N) := by funext v1 v3 v4; exact spec_Backward_t0 N N v1 v3 v4
  exact (show evF2 (spec_Backward_E N) [] Try.f17 [.k .geo] [⟨[.agg [.k (.int .i64), .k (.int .i64), .k (.int .i64), .row 22 .float, .k (.list (.int .i64)), .k (.list (.list (.int .i64))), .row 34 .geo]], [none]⟩] (v1, ()) = spec_Backward_g N v1 (spec_Backward_e0 N N) from by kernel_rfl).trans (by rw [h0]; rfl)
noncomputable def spec_Backward_con (N : Nat) : Con2 := ⟨17, [.k .geo], [⟨[.agg [.k (.int .i64), .k (.int .i64), .k (.int .i64), .row 22 .float, .k (.list (.int .i64)), .k (.list (.list (.int .i64))), .row 34 .geo]], [none]⟩], fun x => spec_Backward N x.1⟩
theorem spec_Backward_s (N : Nat) : (spec_Backward_con N).Sound Try.prog :=
  Con2.sound_of (c := spec_Backward_con N) (E := (spec_Backward_E N)) (idle := []) Try.func17 (by kernel_rfl) (by kernel_rfl) ⟨(allCons (spec_Stride_s N) allNil), allNil⟩ allNil (fun x y h => (spec_Backward_t N x.1).trans h)
/-- pub-orthodrome/laws.FnReverseFlat1 -/
noncomputable def laws_FnReverseFlat1_E (N : Nat) : Env := ⟨Try.prog, N, [laws_fRow_con N, spec_SameFloats_con N], [(0, ⟨[], [], [0, 1], [], none⟩), (1, ⟨[], [], [0, 1], [], none⟩), (2, ⟨[], [], [0, 1, 11], [], none⟩), (3, ⟨[], [], [0, 1], [], none⟩), (4, ⟨[], [], [0, 1, 5, 6], [5], none⟩), (5, ⟨[], [], [0, 1, 5, 19], [5], none⟩), (6, ⟨[], [], [0, 1, 5], [5], none⟩), (7, ⟨[], [], [5, 7, 8], [5, 101150], none⟩)], kdL [], [impl_ReverseFlat1_con N, spec_Backward_con N]⟩
def laws_FnReverseFlat1_g (N : Nat) (v1 : (List Nat)) (v2 : Int) : Option (Bool) :=
  (bif (decide (((v1.length : Int) : Int) > 2147483647)) then (some true) else ((laws_fRow N v1 v2).bind fun v3 => (bif (!v3.2) then (some true) else ((impl_ReverseFlat1 N v1 v2).bind fun v4 => (bif v4.2.1 then ((spec_Backward N (Geo.mk v3.1.kind v3.1.layout v3.1.srid v3.1.flat v3.1.ends v3.1.endss v3.1.kids)).bind fun v5 => (spec_SameFloats N v4.1 v5.1.2.2.2.1).bind fun v6 => (some v6)) else (some false))))))
def laws_FnReverseFlat1 (N : Nat) (v1 : (List Nat)) (v2 : Int) : Option (Bool) :=
  laws_FnReverseFlat1_g N v1 v2
set_option maxRecDepth 100000
theorem laws_FnReverseFlat1_t (N : Nat) (v1 : (List Nat)) (v2 : Int) : evF (laws_FnReverseFlat1_E N) [] Try.f6 [.k (.list .float), .k (.int .i64)] [.bool] (v1, v2, ()) = laws_FnReverseFlat1 N v1 v2 := by
  exact (show evF (laws_FnReverseFlat1_E N) [] Try.f6 [.k (.list .float), .k (.int .i64)] [.bool] (v1, v2, ()) = laws_FnReverseFlat1_g N v1 v2 from by kernel_rfl).trans (by rfl)
noncomputable def laws_FnReverseFlat1_con (N : Nat) : Con := ⟨6, [.k (.list .float), .k (.int .i64)], [.bool], fun x => laws_FnReverseFlat1 N x.1 x.2.1⟩
theorem laws_FnReverseFlat1_s (N : Nat) : (laws_FnReverseFlat1_con N).Sound Try.prog :=
  Con.sound_of (c := laws_FnReverseFlat1_con N) (E := (laws_FnReverseFlat1_E N)) (idle := []) Try.func6 (by kernel_rfl) (by kernel_rfl) ⟨(allCons (laws_fRow_s N) (allCons (spec_SameFloats_s N) allNil)), (allCons (impl_ReverseFlat1_s N) (allCons (spec_Backward_s N) allNil))⟩ allNil (fun x y h => (laws_FnReverseFlat1_t N x.1 x.2.1).trans h)
end Go.Proofs.Ytcppjdjimmnlkaa.FRev
