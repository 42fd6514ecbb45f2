import Derived.Test.YtjabjnkiddldeaaProg
import Derived.Test.YtjabjnkiddldeaaAv16
import Derived.Test.YtjabjnkiddldeaaAv19
import Derived.Test.YtjabjnkiddldeaaAv20
import Derived.Test.YtjabjnkiddldeaaAv21
import Derived.Test.YtjabjnkiddldeaaAv25
import Derived.Test.YtjabjnkiddldeaaAv31
import Derived.Test.YtjabjnkiddldeaaAv32
import Derived.KernelRfl
set_option linter.unusedVariables false
namespace Go.Proofs.Ytjabjnkiddldeaa.TR
open Go Go.Av
noncomputable section
/-- pub-orthodrome/laws.zzFits3 -/
noncomputable def laws_zzFits3_E (N : Nat) : Env := ⟨Try.prog, N, [], [(0, ⟨[], [], [], [], [], [0], [], none⟩), (1, ⟨[], [], [], [], [], [0], [], none⟩), (2, ⟨[], [], [], [], [], [0, 7], [], none⟩), (3, ⟨[], [], [], [], [], [0], [], none⟩), (4, ⟨[], [], [], [], [], [8, 9, 10], [], none⟩), (5, ⟨[], [], [], [], [], [8, 9, 10], [], none⟩), (6, ⟨[], [], [], [], [], [4, 8, 9, 10], [], none⟩), (7, ⟨[], [], [], [], [], [8, 9, 10, 16], [], none⟩), (8, ⟨[], [], [], [], [], [8, 9, 10], [], none⟩), (9, ⟨[], [], [], [], [], [], [], none⟩)], kdL [], [], [], []⟩
def laws_zzFits3_g0 (N : Nat) (v1 : (List (List Int))) (r0 : Int → Option (Bool)) (v3 : Int) : Option (Bool) :=
  (bif (decide ((v3 : Int) < (v1.length : Int))) then ((nth v1 v3).bind fun v4 => (bif (decide (((v4.length : Int) : Int) > 2147483647)) then (some false) else ((r0 (IntKind.i64.wrap (v3 + 1)))))) else (some true))
def laws_zzFits3_l0 (N : Nat) : Nat → (List (List Int)) → Int → Option (Bool)
  | 0, _, _ => none
  | n + 1, v1, v3 => laws_zzFits3_g0 N v1 (laws_zzFits3_l0 N n v1) v3
def laws_zzFits3_g (N : Nat) (v1 : (List (List Int))) (c0 : (List (List Int)) → Int → Option (Bool)) : Option (Bool) :=
  (bif (decide (((v1.length : Int) : Int) > 2147483647)) then (some false) else ((c0 v1 0)))
def laws_zzFits3 (N : Nat) (v1 : (List (List Int))) : Option (Bool) :=
  laws_zzFits3_g N v1 (laws_zzFits3_l0 N N)
set_option maxRecDepth 100000
noncomputable def laws_zzFits3_e0 (N : Nat) (n : Nat) (v1 : (List (List Int))) (v3 : Int) : Option (HR [.bool]) :=
  loopN (advOf (laws_zzFits3_E N) (codeAt (bodyOf Try.f28) [1, 1, 0, 1, 0, 0])) (evC (laws_zzFits3_E N) (codeAt (bodyOf Try.f28) [1, 1, 0, 1, 0, 0])) n ⟨[(8, .pv (.list (.list (.int .i64))) v1), (9, .pv (.int .i64) (v1.length : Int)), (10, .pv (.int .i64) v3)], [], []⟩ (kBlock 0 (kSeq (advOf (laws_zzFits3_E N) (codeAt (bodyOf Try.f28) [1, 1, 1])) (evC (laws_zzFits3_E N) (codeAt (bodyOf Try.f28) [1, 1, 1])) (kEnd (laws_zzFits3_E N) [] Try.f28.results.toList [.bool])))
theorem laws_zzFits3_t0 (N : Nat) : ∀ (n : Nat) (v1 : (List (List Int))) (v3 : Int), laws_zzFits3_e0 N n v1 v3 = laws_zzFits3_l0 N n v1 v3
  | 0, _, _ => rfl
  | n + 1, v1, v3 => by
    have h : laws_zzFits3_e0 N n v1 = laws_zzFits3_l0 N n v1 := by funext v3; exact laws_zzFits3_t0 N n v1 v3
    exact (show laws_zzFits3_e0 N (n + 1) v1 v3 = laws_zzFits3_g0 N v1 (laws_zzFits3_e0 N n v1) v3 from by kernel_rfl).trans (by rw [h]; rfl)
theorem laws_zzFits3_t (N : Nat) (v1 : (List (List Int))) : evF (laws_zzFits3_E N) [] Try.f28 [.k (.list (.list (.int .i64)))] [.bool] (v1, ()) = laws_zzFits3 N v1 := by
  have h0 : (laws_zzFits3_e0 N N) = (laws_zzFits3_l0 N N) := by funext v1 v3; exact laws_zzFits3_t0 N N v1 v3
  exact (show evF (laws_zzFits3_E N) [] Try.f28 [.k (.list (.list (.int .i64)))] [.bool] (v1, ()) = laws_zzFits3_g N v1 (laws_zzFits3_e0 N N) from by kernel_rfl).trans (by rw [h0]; rfl)
noncomputable def laws_zzFits3_con (N : Nat) : Con := ⟨28, [.k (.list (.list (.int .i64)))], [.bool], fun x => laws_zzFits3 N x.1⟩
theorem laws_zzFits3_s (N : Nat) : (laws_zzFits3_con N).Sound Try.prog [] :=
  Con.sound_of (c := laws_zzFits3_con N) (E := (laws_zzFits3_E N)) (idle := []) Try.func28 (by kernel_rfl) (by kernel_rfl) ⟨allNil, allNil, rfl⟩ allNil (fun x y h => (laws_zzFits3_t N x.1).trans h)
/-- pub-orthodrome/laws.zzFits2 -/
noncomputable def laws_zzFits2_E (N : Nat) : Env := ⟨Try.prog, N, [laws_zzFits3_con N], [(0, ⟨[], [], [], [], [], [0], [], none⟩), (1, ⟨[], [], [], [], [], [1], [1], none⟩), (2, ⟨[], [], [], [], [], [1, 6], [1], none⟩), (3, ⟨[], [], [], [], [], [1], [1], none⟩), (4, ⟨[], [], [], [], [], [1, 10], [1], none⟩), (5, ⟨[], [], [], [], [], [1], [1], none⟩), (6, ⟨[], [], [], [], [], [1, 14], [1], none⟩), (7, ⟨[], [], [], [], [], [1], [1], none⟩), (8, ⟨[], [], [], [], [], [18], [], none⟩), (9, ⟨[], [], [], [], [], [], [], none⟩)], kdL [], [], [], []⟩
def laws_zzFits2_g (N : Nat) (v1 : Geo) : Option (Bool) :=
  (bif (decide (((v1.flat.length : Int) : Int) > 2147483647)) then (some false) else (bif (decide (((v1.ends.length : Int) : Int) > 2147483647)) then (some false) else ((laws_zzFits3 N v1.endss).bind fun v2 => (bif (!v2) then (some false) else (bif (decide (((v1.kids.length : Int) : Int) > 2147483647)) then (some false) else (some true))))))
def laws_zzFits2 (N : Nat) (v1 : Geo) : Option (Bool) :=
  laws_zzFits2_g N v1
set_option maxRecDepth 100000
theorem laws_zzFits2_t (N : Nat) (v1 : Geo) : evF (laws_zzFits2_E N) [] Try.f8 [.k .geo] [.bool] (v1, ()) = laws_zzFits2 N v1 := by
  exact (show evF (laws_zzFits2_E N) [] Try.f8 [.k .geo] [.bool] (v1, ()) = laws_zzFits2_g N v1 from by kernel_rfl).trans (by rfl)
noncomputable def laws_zzFits2_con (N : Nat) : Con := ⟨8, [.k .geo], [.bool], fun x => laws_zzFits2 N x.1⟩
theorem laws_zzFits2_s (N : Nat) : (laws_zzFits2_con N).Sound Try.prog [] :=
  Con.sound_of (c := laws_zzFits2_con N) (E := (laws_zzFits2_E N)) (idle := []) Try.func8 (by kernel_rfl) (by kernel_rfl) ⟨(allCons (laws_zzFits3_s N) allNil), allNil, rfl⟩ allNil (fun x y h => (laws_zzFits2_t N x.1).trans h)
/-- pub-orthodrome/laws.zzFits7 -/
noncomputable def laws_zzFits7_E (N : Nat) : Env := ⟨Try.prog, N, [], [(0, ⟨[], [], [], [], [], [0], [], none⟩), (1, ⟨[], [], [], [], [], [1], [1], none⟩), (2, ⟨[], [], [], [], [], [1, 6], [1], none⟩), (3, ⟨[], [], [], [], [], [1], [1], none⟩), (4, ⟨[], [], [], [], [], [10], [], none⟩), (5, ⟨[], [], [], [], [], [], [], none⟩)], kdL [], [], [], []⟩
def laws_zzFits7_g (N : Nat) (v1 : ((List Nat) × ((List Nat) × Unit))) : Option (Bool) :=
  (bif (decide (((v1.1.length : Int) : Int) > 2147483647)) then (some false) else (bif (decide (((v1.2.1.length : Int) : Int) > 2147483647)) then (some false) else (some true)))
def laws_zzFits7 (N : Nat) (v1 : ((List Nat) × ((List Nat) × Unit))) : Option (Bool) :=
  laws_zzFits7_g N v1
set_option maxRecDepth 100000
theorem laws_zzFits7_t (N : Nat) (v1 : ((List Nat) × ((List Nat) × Unit))) : evF (laws_zzFits7_E N) [] Try.f13 [.k (.pair (.list .float) (.pair (.list .float) .unit))] [.bool] (v1, ()) = laws_zzFits7 N v1 := by
  exact (show evF (laws_zzFits7_E N) [] Try.f13 [.k (.pair (.list .float) (.pair (.list .float) .unit))] [.bool] (v1, ()) = laws_zzFits7_g N v1 from by kernel_rfl).trans (by rfl)
noncomputable def laws_zzFits7_con (N : Nat) : Con := ⟨13, [.k (.pair (.list .float) (.pair (.list .float) .unit))], [.bool], fun x => laws_zzFits7 N x.1⟩
theorem laws_zzFits7_s (N : Nat) : (laws_zzFits7_con N).Sound Try.prog [] :=
  Con.sound_of (c := laws_zzFits7_con N) (E := (laws_zzFits7_E N)) (idle := []) Try.func13 (by kernel_rfl) (by kernel_rfl) ⟨allNil, allNil, rfl⟩ allNil (fun x y h => (laws_zzFits7_t N x.1).trans h)
/-- pub-orthodrome/spec.Weight -/
def spec_Weight_g1 (N : Nat) (self : Geo → Int → Option (Int)) (v2 : Int) (v1 : Geo) (r1 : Int → Int → Option (Int)) (v9 : Int) (v10 : Int) : Option (Int) :=
  (bif (decide ((v10 : Int) < (v1.kids.length : Int))) then ((nth v1.kids v10).bind fun v11 => (bif (decide ((v9 : Int) > v2)) then (some v9) else ((self (Geo.mk v11.kind v11.layout v11.srid v11.flat v11.ends v11.endss v11.kids) (IntKind.i64.wrap (v2 - v9))).bind fun v12 => ((r1 (IntKind.i64.wrap (v9 + v12)) (IntKind.i64.wrap (v10 + 1))))))) else (some v9))
def spec_Weight_l1 (N : Nat) (self : Geo → Int → Option (Int)) : Nat → Int → Geo → Int → Int → Option (Int)
  | 0, _, _, _, _ => none
  | n + 1, v2, v1, v9, v10 => spec_Weight_g1 N self v2 v1 (spec_Weight_l1 N self n v2 v1) v9 v10
def spec_Weight_g0 (N : Nat) (self : Geo → Int → Option (Int)) (v2 : Int) (v1 : Geo) (c1 : Int → Geo → Int → Int → Option (Int)) (r0 : Int → Int → Option (Int)) (v4 : Int) (v5 : Int) : Option (Int) :=
  (bif (decide ((v5 : Int) < (v1.endss.length : Int))) then ((nth v1.endss v5).bind fun v6 => ((r0 (IntKind.i64.wrap (v4 + (IntKind.i64.wrap (1 + (v6.length : Int))))) (IntKind.i64.wrap (v5 + 1))))) else ((c1 v2 v1 v4 0)))
def spec_Weight_l0 (N : Nat) (self : Geo → Int → Option (Int)) : Nat → Int → Geo → Int → Int → Option (Int)
  | 0, _, _, _, _ => none
  | n + 1, v2, v1, v4, v5 => spec_Weight_g0 N self v2 v1 (spec_Weight_l1 N self N) (spec_Weight_l0 N self n v2 v1) v4 v5
def spec_Weight_g (N : Nat) (self : Geo → Int → Option (Int)) (v1 : Geo) (v2 : Int) (c0 : Int → Geo → Int → Int → Option (Int)) : Option (Int) :=
  ((c0 v2 v1 (IntKind.i64.wrap ((IntKind.i64.wrap (1 + (v1.flat.length : Int))) + (v1.ends.length : Int))) 0))
def spec_Weight (N : Nat) : Nat → Geo → Int → Option (Int)
  | 0, _, _ => none
  | d + 1, v1, v2 => spec_Weight_g N (spec_Weight N d) v1 v2 (spec_Weight_l0 N (spec_Weight N d) N)
noncomputable def spec_Weight_con' (N : Nat) (d : Nat) : Con := ⟨56, [.k .geo, .k (.int .i64)], [(.int .i64)], fun x => spec_Weight N d x.1 x.2.1⟩
noncomputable def spec_Weight_E (N : Nat) (d : Nat) : Env := ⟨Try.prog, N, [spec_Weight_con' N d], [(0, ⟨[], [], [], [], [], [0, 1], [], none⟩), (1, ⟨[], [], [], [], [], [1, 2], [2], none⟩), (2, ⟨[], [], [], [], [], [1, 2, 5], [2], none⟩), (3, ⟨[], [], [], [], [], [1, 2, 5, 19, 20, 21], [2], none⟩), (4, ⟨[], [], [], [], [], [1, 2, 5, 19, 20, 21], [2], none⟩), (5, ⟨[], [], [], [], [], [1, 2, 5, 7, 19, 20, 21], [2], none⟩), (6, ⟨[], [], [], [], [], [1, 2, 5, 19, 20, 21], [2], none⟩), (7, ⟨[], [], [], [], [], [1, 2, 5], [2], none⟩), (8, ⟨[], [], [], [], [], [1, 5, 32, 33, 34], [], none⟩), (9, ⟨[], [], [], [], [], [1, 5, 32, 33, 34], [], none⟩), (10, ⟨[], [], [], [], [], [1, 5, 9, 32, 33, 34], [9], none⟩), (11, ⟨[], [], [], [], [], [1, 5, 9, 32, 33, 34, 40], [9], none⟩), (12, ⟨[], [], [], [], [], [1, 5, 9, 32, 33, 34], [9], none⟩), (13, ⟨[], [], [], [], [], [1, 5, 32, 33, 34], [], none⟩), (14, ⟨[], [], [], [], [], [5], [], none⟩)], kdL [], [], [], []⟩
set_option maxRecDepth 100000
noncomputable def spec_Weight_e1 (N : Nat) (d : Nat) (n : Nat) (v2 : Int) (v1 : Geo) (v9 : Int) (v10 : Int) : Option (HR [(.int .i64)]) :=
  loopN (advOf (spec_Weight_E N d) (codeAt (bodyOf Try.f56) [1, 1, 1, 0, 1, 0, 0])) (evC (spec_Weight_E N d) (codeAt (bodyOf Try.f56) [1, 1, 1, 0, 1, 0, 0])) n ⟨[(1, .pv (.int .i64) v2), (5, .pv (.int .i64) v9), (32, .pv (.list .geo) v1.kids), (33, .pv (.int .i64) (v1.kids.length : Int)), (34, .pv (.int .i64) v10)], [], []⟩ (kBlock 2 (kSeq (advOf (spec_Weight_E N d) (codeAt (bodyOf Try.f56) [1, 1, 1, 1])) (evC (spec_Weight_E N d) (codeAt (bodyOf Try.f56) [1, 1, 1, 1])) (kEnd (spec_Weight_E N d) [] Try.f56.results.toList [(.int .i64)])))
noncomputable def spec_Weight_e0 (N : Nat) (d : Nat) (n : Nat) (v2 : Int) (v1 : Geo) (v4 : Int) (v5 : Int) : Option (HR [(.int .i64)]) :=
  loopN (advOf (spec_Weight_E N d) (codeAt (bodyOf Try.f56) [1, 1, 0, 1, 0, 0])) (evC (spec_Weight_E N d) (codeAt (bodyOf Try.f56) [1, 1, 0, 1, 0, 0])) n ⟨[(1, .pv (.int .i64) v2), (2, .ref 2 0), (5, .pv (.int .i64) v4), (19, .pv (.list (.list (.int .i64))) v1.endss), (20, .pv (.int .i64) (v1.endss.length : Int)), (21, .pv (.int .i64) v5)], [(2, .box [.pv (.int .i64) v1.kind, .pv (.int .i64) v1.layout, .pv (.int .i64) v1.srid, .pv (.list .float) v1.flat, .pv (.list (.int .i64)) v1.ends, .pv (.list (.list (.int .i64))) v1.endss, .pv (.list .geo) v1.kids])], []⟩ (kBlock 0 (kSeq (advOf (spec_Weight_E N d) (codeAt (bodyOf Try.f56) [1, 1, 1])) (evC (spec_Weight_E N d) (codeAt (bodyOf Try.f56) [1, 1, 1])) (kEnd (spec_Weight_E N d) [] Try.f56.results.toList [(.int .i64)])))
theorem spec_Weight_t1 (N : Nat) (d : Nat) : ∀ (n : Nat) (v2 : Int) (v1 : Geo) (v9 : Int) (v10 : Int), spec_Weight_e1 N d n v2 v1 v9 v10 = spec_Weight_l1 N (spec_Weight N d) n v2 v1 v9 v10
  | 0, _, _, _, _ => rfl
  | n + 1, v2, v1, v9, v10 => by
    have h : spec_Weight_e1 N d n v2 v1 = spec_Weight_l1 N (spec_Weight N d) n v2 v1 := by funext v9 v10; exact spec_Weight_t1 N d n v2 v1 v9 v10
    exact (show spec_Weight_e1 N d (n + 1) v2 v1 v9 v10 = spec_Weight_g1 N (spec_Weight N d) v2 v1 (spec_Weight_e1 N d n v2 v1) v9 v10 from by kernel_rfl).trans (by rw [h]; rfl)
theorem spec_Weight_t0 (N : Nat) (d : Nat) : ∀ (n : Nat) (v2 : Int) (v1 : Geo) (v4 : Int) (v5 : Int), spec_Weight_e0 N d n v2 v1 v4 v5 = spec_Weight_l0 N (spec_Weight N d) n v2 v1 v4 v5
  | 0, _, _, _, _ => rfl
  | n + 1, v2, v1, v4, v5 => by
    have h1 : (spec_Weight_e1 N d N) = (spec_Weight_l1 N (spec_Weight N d) N) := by funext v2 v1 v9 v10; exact spec_Weight_t1 N d N v2 v1 v9 v10
    have h : spec_Weight_e0 N d n v2 v1 = spec_Weight_l0 N (spec_Weight N d) n v2 v1 := by funext v4 v5; exact spec_Weight_t0 N d n v2 v1 v4 v5
    exact (show spec_Weight_e0 N d (n + 1) v2 v1 v4 v5 = spec_Weight_g0 N (spec_Weight N d) v2 v1 (spec_Weight_e1 N d N) (spec_Weight_e0 N d n v2 v1) v4 v5 from by kernel_rfl).trans (by rw [h1, h]; rfl)
theorem spec_Weight_t (N : Nat) (d : Nat) (v1 : Geo) (v2 : Int) : evF (spec_Weight_E N d) [] Try.f56 [.k .geo, .k (.int .i64)] [(.int .i64)] (v1, v2, ()) = spec_Weight N (d + 1) v1 v2 := by
  have h0 : (spec_Weight_e0 N d N) = (spec_Weight_l0 N (spec_Weight N d) N) := by funext v2 v1 v4 v5; exact spec_Weight_t0 N d N v2 v1 v4 v5
  exact (show evF (spec_Weight_E N d) [] Try.f56 [.k .geo, .k (.int .i64)] [(.int .i64)] (v1, v2, ()) = spec_Weight_g N (spec_Weight N d) v1 v2 (spec_Weight_e0 N d N) from by kernel_rfl).trans (by rw [h0]; rfl)
theorem spec_Weight_s' (N : Nat) : ∀ d, (spec_Weight_con' N d).Sound Try.prog []
  | 0 => fun _ _ _ _ _ _ _ _ h => by cases h
  | d + 1 => Con.sound_of (c := spec_Weight_con' N (d + 1)) (E := (spec_Weight_E N d)) (idle := []) Try.func56 (by kernel_rfl) (by kernel_rfl) ⟨(allCons (spec_Weight_s' N d) allNil), allNil, rfl⟩ allNil (fun x y h => (spec_Weight_t N d x.1 x.2.1).trans h)
noncomputable def spec_Weight_con (N : Nat) : Con := spec_Weight_con' N N
theorem spec_Weight_s (N : Nat) : (spec_Weight_con N).Sound Try.prog [] := spec_Weight_s' N N
/-- pub-orthodrome/laws.gLayouts -/
def laws_gLayouts_g0 (N : Nat) (self : Geo → Int → Option (Bool)) (v2 : Int) (v1 : Geo) (r0 : Int → Option (Bool)) (v5 : Int) : Option (Bool) :=
  (bif (decide ((v5 : Int) < (v1.kids.length : Int))) then ((nth v1.kids v5).bind fun v6 => ((self (Geo.mk v6.kind v6.layout v6.srid v6.flat v6.ends v6.endss v6.kids) v2).bind fun v7 => (bif (!v7) then (some false) else ((r0 (IntKind.i64.wrap (v5 + 1))))))) else (bif (decide ((v1.layout : Int) ≤ v2)) then (bif (decide ((v1.layout : Int) ≥ 1)) then (some true) else (bif (v1.kind == 7) then (some (decide ((v1.layout : Int) ≥ 0))) else (some false))) else (some false)))
def laws_gLayouts_l0 (N : Nat) (self : Geo → Int → Option (Bool)) : Nat → Int → Geo → Int → Option (Bool)
  | 0, _, _, _ => none
  | n + 1, v2, v1, v5 => laws_gLayouts_g0 N self v2 v1 (laws_gLayouts_l0 N self n v2 v1) v5
def laws_gLayouts_g (N : Nat) (self : Geo → Int → Option (Bool)) (v1 : Geo) (v2 : Int) (c0 : Int → Geo → Int → Option (Bool)) : Option (Bool) :=
  ((c0 v2 v1 0))
def laws_gLayouts (N : Nat) : Nat → Geo → Int → Option (Bool)
  | 0, _, _ => none
  | d + 1, v1, v2 => laws_gLayouts_g N (laws_gLayouts N d) v1 v2 (laws_gLayouts_l0 N (laws_gLayouts N d) N)
noncomputable def laws_gLayouts_con' (N : Nat) (d : Nat) : Con := ⟨30, [.k .geo, .k (.int .i64)], [.bool], fun x => laws_gLayouts N d x.1 x.2.1⟩
noncomputable def laws_gLayouts_E (N : Nat) (d : Nat) : Env := ⟨Try.prog, N, [laws_gLayouts_con' N d], [(0, ⟨[], [], [], [], [], [0, 1], [], none⟩), (1, ⟨[], [], [], [], [], [1, 2], [2], none⟩), (2, ⟨[], [], [], [], [], [1, 2, 8, 9, 10], [2], none⟩), (3, ⟨[], [], [], [], [], [1, 2, 8, 9, 10], [2], none⟩), (4, ⟨[], [], [], [], [], [1, 2, 6, 8, 9, 10], [2, 6], none⟩), (5, ⟨[], [], [], [], [], [1, 2, 8, 9, 10, 17], [2], none⟩), (6, ⟨[], [], [], [], [], [1, 2, 8, 9, 10], [2], none⟩), (7, ⟨[], [], [], [], [], [1, 2], [2], none⟩)], kdL [], [], [], []⟩
set_option maxRecDepth 100000
noncomputable def laws_gLayouts_e0 (N : Nat) (d : Nat) (n : Nat) (v2 : Int) (v1 : Geo) (v5 : Int) : Option (HR [.bool]) :=
  loopN (advOf (laws_gLayouts_E N d) (codeAt (bodyOf Try.f30) [1, 0, 1, 0, 0])) (evC (laws_gLayouts_E N d) (codeAt (bodyOf Try.f30) [1, 0, 1, 0, 0])) n ⟨[(1, .pv (.int .i64) v2), (2, .ref 2 0), (8, .pv (.list .geo) v1.kids), (9, .pv (.int .i64) (v1.kids.length : Int)), (10, .pv (.int .i64) v5)], [(2, .box [.pv (.int .i64) v1.kind, .pv (.int .i64) v1.layout, .pv (.int .i64) v1.srid, .pv (.list .float) v1.flat, .pv (.list (.int .i64)) v1.ends, .pv (.list (.list (.int .i64))) v1.endss, .pv (.list .geo) v1.kids])], []⟩ (kBlock 0 (kSeq (advOf (laws_gLayouts_E N d) (codeAt (bodyOf Try.f30) [1, 1])) (evC (laws_gLayouts_E N d) (codeAt (bodyOf Try.f30) [1, 1])) (kEnd (laws_gLayouts_E N d) [] Try.f30.results.toList [.bool])))
theorem laws_gLayouts_t0 (N : Nat) (d : Nat) : ∀ (n : Nat) (v2 : Int) (v1 : Geo) (v5 : Int), laws_gLayouts_e0 N d n v2 v1 v5 = laws_gLayouts_l0 N (laws_gLayouts N d) n v2 v1 v5
  | 0, _, _, _ => rfl
  | n + 1, v2, v1, v5 => by
    have h : laws_gLayouts_e0 N d n v2 v1 = laws_gLayouts_l0 N (laws_gLayouts N d) n v2 v1 := by funext v5; exact laws_gLayouts_t0 N d n v2 v1 v5
    exact (show laws_gLayouts_e0 N d (n + 1) v2 v1 v5 = laws_gLayouts_g0 N (laws_gLayouts N d) v2 v1 (laws_gLayouts_e0 N d n v2 v1) v5 from by kernel_rfl).trans (by rw [h]; rfl)
theorem laws_gLayouts_t (N : Nat) (d : Nat) (v1 : Geo) (v2 : Int) : evF (laws_gLayouts_E N d) [] Try.f30 [.k .geo, .k (.int .i64)] [.bool] (v1, v2, ()) = laws_gLayouts N (d + 1) v1 v2 := by
  have h0 : (laws_gLayouts_e0 N d N) = (laws_gLayouts_l0 N (laws_gLayouts N d) N) := by funext v2 v1 v5; exact laws_gLayouts_t0 N d N v2 v1 v5
  exact (show evF (laws_gLayouts_E N d) [] Try.f30 [.k .geo, .k (.int .i64)] [.bool] (v1, v2, ()) = laws_gLayouts_g N (laws_gLayouts N d) v1 v2 (laws_gLayouts_e0 N d N) from by kernel_rfl).trans (by rw [h0]; rfl)
theorem laws_gLayouts_s' (N : Nat) : ∀ d, (laws_gLayouts_con' N d).Sound Try.prog []
  | 0 => fun _ _ _ _ _ _ _ _ h => by cases h
  | d + 1 => Con.sound_of (c := laws_gLayouts_con' N (d + 1)) (E := (laws_gLayouts_E N d)) (idle := []) Try.func30 (by kernel_rfl) (by kernel_rfl) ⟨(allCons (laws_gLayouts_s' N d) allNil), allNil, rfl⟩ allNil (fun x y h => (laws_gLayouts_t N d x.1 x.2.1).trans h)
noncomputable def laws_gLayouts_con (N : Nat) : Con := laws_gLayouts_con' N N
theorem laws_gLayouts_s (N : Nat) : (laws_gLayouts_con N).Sound Try.prog [] := laws_gLayouts_s' N N
/-- pub-orthodrome/laws.gSmall -/
noncomputable def laws_gSmall_E (N : Nat) : Env := ⟨Try.prog, N, [spec_Weight_con N, laws_gLayouts_con N], [(0, ⟨[], [], [], [], [], [0], [], none⟩), (1, ⟨[], [], [], [], [], [0], [], none⟩), (2, ⟨[], [], [], [], [], [0, 3], [], none⟩), (3, ⟨[], [], [], [], [], [3, 6, 7, 8], [], none⟩), (4, ⟨[], [], [], [], [], [3, 6, 7, 8], [], none⟩), (5, ⟨[], [], [], [], [], [3, 5, 6, 7, 8], [5], none⟩), (6, ⟨[], [], [], [], [], [3, 5, 6, 7, 8], [5], none⟩), (7, ⟨[], [], [], [], [], [3, 6, 7, 8, 23], [], none⟩), (8, ⟨[], [], [], [], [], [3, 6, 7, 8], [], none⟩), (9, ⟨[], [], [], [], [], [], [], none⟩)], kdL [], [], [], []⟩
def laws_gSmall_g0 (N : Nat) (v1 : (List Geo)) (r0 : Int → Int → Option (Bool)) (v5 : Int) (v6 : Int) : Option (Bool) :=
  (bif (decide ((v6 : Int) < (v1.length : Int))) then ((nth v1 v6).bind fun v7 => ((spec_Weight N N (Geo.mk v7.kind v7.layout v7.srid v7.flat v7.ends v7.endss v7.kids) v5).bind fun v8 => (bif (decide (((IntKind.i64.wrap (v5 - v8)) : Int) < 0)) then (some false) else ((laws_gLayouts N N (Geo.mk v7.kind v7.layout v7.srid v7.flat v7.ends v7.endss v7.kids) 9).bind fun v9 => (bif (!v9) then (some false) else ((r0 (IntKind.i64.wrap (v5 - v8)) (IntKind.i64.wrap (v6 + 1))))))))) else (some true))
def laws_gSmall_l0 (N : Nat) : Nat → (List Geo) → Int → Int → Option (Bool)
  | 0, _, _, _ => none
  | n + 1, v1, v5, v6 => laws_gSmall_g0 N v1 (laws_gSmall_l0 N n v1) v5 v6
def laws_gSmall_g (N : Nat) (v1 : (List Geo)) (c0 : (List Geo) → Int → Int → Option (Bool)) : Option (Bool) :=
  ((c0 v1 2000 0))
def laws_gSmall (N : Nat) (v1 : (List Geo)) : Option (Bool) :=
  laws_gSmall_g N v1 (laws_gSmall_l0 N N)
set_option maxRecDepth 100000
noncomputable def laws_gSmall_e0 (N : Nat) (n : Nat) (v1 : (List Geo)) (v5 : Int) (v6 : Int) : Option (HR [.bool]) :=
  loopN (advOf (laws_gSmall_E N) (codeAt (bodyOf Try.f31) [1, 1, 0, 1, 0, 0])) (evC (laws_gSmall_E N) (codeAt (bodyOf Try.f31) [1, 1, 0, 1, 0, 0])) n ⟨[(3, .pv (.int .i64) v5), (6, .pv (.list .geo) v1), (7, .pv (.int .i64) (v1.length : Int)), (8, .pv (.int .i64) v6)], [], []⟩ (kBlock 0 (kSeq (advOf (laws_gSmall_E N) (codeAt (bodyOf Try.f31) [1, 1, 1])) (evC (laws_gSmall_E N) (codeAt (bodyOf Try.f31) [1, 1, 1])) (kEnd (laws_gSmall_E N) [] Try.f31.results.toList [.bool])))
theorem laws_gSmall_t0 (N : Nat) : ∀ (n : Nat) (v1 : (List Geo)) (v5 : Int) (v6 : Int), laws_gSmall_e0 N n v1 v5 v6 = laws_gSmall_l0 N n v1 v5 v6
  | 0, _, _, _ => rfl
  | n + 1, v1, v5, v6 => by
    have h : laws_gSmall_e0 N n v1 = laws_gSmall_l0 N n v1 := by funext v5 v6; exact laws_gSmall_t0 N n v1 v5 v6
    exact (show laws_gSmall_e0 N (n + 1) v1 v5 v6 = laws_gSmall_g0 N v1 (laws_gSmall_e0 N n v1) v5 v6 from by kernel_rfl).trans (by rw [h]; rfl)
theorem laws_gSmall_t (N : Nat) (v1 : (List Geo)) : evF (laws_gSmall_E N) [] Try.f31 [.k (.list .geo)] [.bool] (v1, ()) = laws_gSmall N v1 := by
  have h0 : (laws_gSmall_e0 N N) = (laws_gSmall_l0 N N) := by funext v1 v5 v6; exact laws_gSmall_t0 N N v1 v5 v6
  exact (show evF (laws_gSmall_E N) [] Try.f31 [.k (.list .geo)] [.bool] (v1, ()) = laws_gSmall_g N v1 (laws_gSmall_e0 N N) from by kernel_rfl).trans (by rw [h0]; rfl)
noncomputable def laws_gSmall_con (N : Nat) : Con := ⟨31, [.k (.list .geo)], [.bool], fun x => laws_gSmall N x.1⟩
theorem laws_gSmall_s (N : Nat) : (laws_gSmall_con N).Sound Try.prog [] :=
  Con.sound_of (c := laws_gSmall_con N) (E := (laws_gSmall_E N)) (idle := []) Try.func31 (by kernel_rfl) (by kernel_rfl) ⟨(allCons (spec_Weight_s N) (allCons (laws_gLayouts_s N) allNil)), allNil, rfl⟩ allNil (fun x y h => (laws_gSmall_t N x.1).trans h)
/-- pub-orthodrome/spec.Stride -/
noncomputable def spec_Stride_E (N : Nat) : Env := ⟨Try.prog, N, [], [(0, ⟨[], [], [], [], [], [0], [], none⟩), (1, ⟨[], [], [], [], [], [0], [], none⟩), (2, ⟨[], [], [], [], [], [0, 3], [], none⟩), (4, ⟨[], [], [], [], [], [0, 6], [], none⟩), (6, ⟨[], [], [], [], [], [0, 9], [], none⟩), (7, ⟨[], [], [], [], [], [0], [], none⟩)], kdL [], [], [], []⟩
def spec_Stride_g (N : Nat) (v1 : Int) : Option (Int) :=
  (bif (decide ((v1 : Int) < 1)) then (some 0) else (bif (v1 == 1) then (some 2) else (bif (v1 == 2) then (some 3) else (bif (v1 == 3) then (some 3) else (some v1)))))
def spec_Stride (N : Nat) (v1 : Int) : Option (Int) :=
  spec_Stride_g N v1
set_option maxRecDepth 100000
theorem spec_Stride_t (N : Nat) (v1 : Int) : evF (spec_Stride_E N) [] Try.f17 [.k (.int .i64)] [(.int .i64)] (v1, ()) = spec_Stride N v1 := by
  exact (show evF (spec_Stride_E N) [] Try.f17 [.k (.int .i64)] [(.int .i64)] (v1, ()) = spec_Stride_g N v1 from by kernel_rfl).trans (by rfl)
noncomputable def spec_Stride_con (N : Nat) : Con := ⟨17, [.k (.int .i64)], [(.int .i64)], fun x => spec_Stride N x.1⟩
theorem spec_Stride_s (N : Nat) : (spec_Stride_con N).Sound Try.prog [] :=
  Con.sound_of (c := spec_Stride_con N) (E := (spec_Stride_E N)) (idle := []) Try.func17 (by kernel_rfl) (by kernel_rfl) ⟨allNil, allNil, rfl⟩ allNil (fun x y h => (spec_Stride_t N x.1).trans h)
/-- pub-orthodrome/spec.Cover -/
noncomputable def spec_Cover_E (N : Nat) : Env := ⟨Try.prog, N, [], [(0, ⟨[], [], [], [], [], [0, 1], [], none⟩), (1, ⟨[], [], [], [], [], [0, 1], [], none⟩), (2, ⟨[], [], [], [], [], [0, 1, 18], [], some N⟩), (3, ⟨[], [], [], [], [], [0, 1], [], some N⟩)], kdL [], [], [], []⟩
def spec_Cover_g2 (N : Nat) (v1 : Int) (v2 : Int) : Option (Int) :=
  (some (imm true v1 v2))
def spec_Cover_j2 (N : Nat) (v1 : Int) (v2 : Int) : Option (Int) :=
  gate N (spec_Cover_g2 N v1 v2)
def spec_Cover_g0 (N : Nat) (v1 : Int) (v2 : Int) (c2 : Int → Int → Option (Int)) : Option (Int) :=
  bif (v2 == 2) then (some 4) else (c2 v1 v2)
def spec_Cover_j0 (N : Nat) (v1 : Int) (v2 : Int) : Option (Int) :=
  gate N (spec_Cover_g0 N v1 v2 (spec_Cover_j2 N))
def spec_Cover_g1 (N : Nat) (v1 : Int) (v2 : Int) (c2 : Int → Int → Option (Int)) : Option (Int) :=
  (c2 v1 v2)
def spec_Cover_j1 (N : Nat) (v1 : Int) (v2 : Int) : Option (Int) :=
  gate N (spec_Cover_g1 N v1 v2 (spec_Cover_j2 N))
def spec_Cover_g (N : Nat) (v1 : Int) (v2 : Int) (c0 : Int → Int → Option (Int)) (c1 : Int → Int → Option (Int)) : Option (Int) :=
  (bif (v1 == 2) then (bif (v2 == 3) then (gate N (some 4)) else (bif (v1 == 3) then (c0 v1 v2) else (c1 v1 v2))) else (bif (v1 == 3) then (c0 v1 v2) else (c1 v1 v2)))
def spec_Cover (N : Nat) (v1 : Int) (v2 : Int) : Option (Int) :=
  spec_Cover_g N v1 v2 (spec_Cover_j0 N) (spec_Cover_j1 N)
set_option maxRecDepth 100000
noncomputable def spec_Cover_e2 (N : Nat) (v1 : Int) (v2 : Int) : Option (HR [(.int .i64)]) :=
  gate N (evC (spec_Cover_E N) (codeAt (bodyOf Try.f104) [1, 1]) ⟨[(0, .pv (.int .i64) v1), (1, .pv (.int .i64) v2)], [], []⟩ (kEnd (spec_Cover_E N) [] Try.f104.results.toList [(.int .i64)]))
noncomputable def spec_Cover_e0 (N : Nat) (v1 : Int) (v2 : Int) : Option (HR [(.int .i64)]) :=
  gate N (evC (spec_Cover_E N) (codeAt (bodyOf Try.f104) [1, 0, 1]) ⟨[(0, .pv (.int .i64) v1), (1, .pv (.int .i64) v2), (18, .pv .bool (v2 == 2))], [], []⟩ (kSeq (advOf (spec_Cover_E N) (codeAt (bodyOf Try.f104) [1, 1])) (evC (spec_Cover_E N) (codeAt (bodyOf Try.f104) [1, 1])) (kEnd (spec_Cover_E N) [] Try.f104.results.toList [(.int .i64)])))
noncomputable def spec_Cover_e1 (N : Nat) (v1 : Int) (v2 : Int) : Option (HR [(.int .i64)]) :=
  gate N (evC (spec_Cover_E N) (codeAt (bodyOf Try.f104) [1, 0, 1]) ⟨[(0, .pv (.int .i64) v1), (1, .pv (.int .i64) v2), (18, .pv .bool false)], [], []⟩ (kSeq (advOf (spec_Cover_E N) (codeAt (bodyOf Try.f104) [1, 1])) (evC (spec_Cover_E N) (codeAt (bodyOf Try.f104) [1, 1])) (kEnd (spec_Cover_E N) [] Try.f104.results.toList [(.int .i64)])))
theorem spec_Cover_t2 (N : Nat) (v1 : Int) (v2 : Int) : spec_Cover_e2 N v1 v2 = spec_Cover_j2 N v1 v2 := by
  exact (congrArg (gate N) (show evC (spec_Cover_E N) (codeAt (bodyOf Try.f104) [1, 1]) ⟨[(0, .pv (.int .i64) v1), (1, .pv (.int .i64) v2)], [], []⟩ (kEnd (spec_Cover_E N) [] Try.f104.results.toList [(.int .i64)]) = spec_Cover_g2 N v1 v2 from by kernel_rfl)).trans (by rfl)
theorem spec_Cover_t0 (N : Nat) (v1 : Int) (v2 : Int) : spec_Cover_e0 N v1 v2 = spec_Cover_j0 N v1 v2 := by
  have h2 : (spec_Cover_e2 N) = (spec_Cover_j2 N) := by funext v1 v2; exact spec_Cover_t2 N v1 v2
  exact (congrArg (gate N) (show evC (spec_Cover_E N) (codeAt (bodyOf Try.f104) [1, 0, 1]) ⟨[(0, .pv (.int .i64) v1), (1, .pv (.int .i64) v2), (18, .pv .bool (v2 == 2))], [], []⟩ (kSeq (advOf (spec_Cover_E N) (codeAt (bodyOf Try.f104) [1, 1])) (evC (spec_Cover_E N) (codeAt (bodyOf Try.f104) [1, 1])) (kEnd (spec_Cover_E N) [] Try.f104.results.toList [(.int .i64)])) = spec_Cover_g0 N v1 v2 (spec_Cover_e2 N) from by kernel_rfl)).trans (by rw [h2]; rfl)
theorem spec_Cover_t1 (N : Nat) (v1 : Int) (v2 : Int) : spec_Cover_e1 N v1 v2 = spec_Cover_j1 N v1 v2 := by
  have h2 : (spec_Cover_e2 N) = (spec_Cover_j2 N) := by funext v1 v2; exact spec_Cover_t2 N v1 v2
  exact (congrArg (gate N) (show evC (spec_Cover_E N) (codeAt (bodyOf Try.f104) [1, 0, 1]) ⟨[(0, .pv (.int .i64) v1), (1, .pv (.int .i64) v2), (18, .pv .bool false)], [], []⟩ (kSeq (advOf (spec_Cover_E N) (codeAt (bodyOf Try.f104) [1, 1])) (evC (spec_Cover_E N) (codeAt (bodyOf Try.f104) [1, 1])) (kEnd (spec_Cover_E N) [] Try.f104.results.toList [(.int .i64)])) = spec_Cover_g1 N v1 v2 (spec_Cover_e2 N) from by kernel_rfl)).trans (by rw [h2]; rfl)
theorem spec_Cover_t (N : Nat) (v1 : Int) (v2 : Int) : evF (spec_Cover_E N) [] Try.f104 [.k (.int .i64), .k (.int .i64)] [(.int .i64)] (v1, v2, ()) = spec_Cover N v1 v2 := by
  have h0 : (spec_Cover_e0 N) = (spec_Cover_j0 N) := by funext v1 v2; exact spec_Cover_t0 N v1 v2
  have h1 : (spec_Cover_e1 N) = (spec_Cover_j1 N) := by funext v1 v2; exact spec_Cover_t1 N v1 v2
  exact (show evF (spec_Cover_E N) [] Try.f104 [.k (.int .i64), .k (.int .i64)] [(.int .i64)] (v1, v2, ()) = spec_Cover_g N v1 v2 (spec_Cover_e0 N) (spec_Cover_e1 N) from by kernel_rfl).trans (by rw [h0, h1]; rfl)
noncomputable def spec_Cover_con (N : Nat) : Con := ⟨104, [.k (.int .i64), .k (.int .i64)], [(.int .i64)], fun x => spec_Cover N x.1 x.2.1⟩
theorem spec_Cover_s (N : Nat) : (spec_Cover_con N).Sound Try.prog [] :=
  Con.sound_of (c := spec_Cover_con N) (E := (spec_Cover_E N)) (idle := []) Try.func104 (by kernel_rfl) (by kernel_rfl) ⟨allNil, allNil, rfl⟩ allNil (fun x y h => (spec_Cover_t N x.1 x.2.1).trans h)
/-- pub-orthodrome/spec.LayoutOf -/
def spec_LayoutOf_g0 (N : Nat) (self : Geo → Option (Int)) (v1 : Geo) (r0 : Int → Int → Option (Int)) (v5 : Int) (v6 : Int) : Option (Int) :=
  (bif (decide ((v6 : Int) < (v1.kids.length : Int))) then ((nth v1.kids v6).bind fun v7 => ((self (Geo.mk v7.kind v7.layout v7.srid v7.flat v7.ends v7.endss v7.kids)).bind fun v8 => (spec_Cover N v5 v8).bind fun v9 => ((r0 v9 (IntKind.i64.wrap (v6 + 1)))))) else (some v5))
def spec_LayoutOf_l0 (N : Nat) (self : Geo → Option (Int)) : Nat → Geo → Int → Int → Option (Int)
  | 0, _, _, _ => none
  | n + 1, v1, v5, v6 => spec_LayoutOf_g0 N self v1 (spec_LayoutOf_l0 N self n v1) v5 v6
def spec_LayoutOf_g (N : Nat) (self : Geo → Option (Int)) (v1 : Geo) (c0 : Geo → Int → Int → Option (Int)) : Option (Int) :=
  (bif (v1.kind != 7) then (some v1.layout) else (bif (v1.layout != 0) then (some v1.layout) else ((c0 v1 v1.layout 0))))
def spec_LayoutOf (N : Nat) : Nat → Geo → Option (Int)
  | 0, _ => none
  | d + 1, v1 => spec_LayoutOf_g N (spec_LayoutOf N d) v1 (spec_LayoutOf_l0 N (spec_LayoutOf N d) N)
noncomputable def spec_LayoutOf_con' (N : Nat) (d : Nat) : Con := ⟨88, [.k .geo], [(.int .i64)], fun x => spec_LayoutOf N d x.1⟩
noncomputable def spec_LayoutOf_E (N : Nat) (d : Nat) : Env := ⟨Try.prog, N, [spec_LayoutOf_con' N d, spec_Cover_con N], [(0, ⟨[], [], [], [], [], [0], [], none⟩), (1, ⟨[], [], [], [], [], [1], [1], none⟩), (2, ⟨[], [], [], [], [], [1, 3], [1], none⟩), (3, ⟨[], [], [], [], [], [1, 3, 14], [1], none⟩), (4, ⟨[], [], [], [], [], [1, 3], [1], none⟩), (5, ⟨[], [], [], [], [], [3, 17, 18, 19], [], none⟩), (6, ⟨[], [], [], [], [], [3, 17, 18, 19], [], none⟩), (7, ⟨[], [], [], [], [], [3, 5, 17, 18, 19], [5], none⟩), (8, ⟨[], [], [], [], [], [3, 17, 18, 19], [], none⟩), (9, ⟨[], [], [], [], [], [3], [], none⟩)], kdL [], [], [], []⟩
set_option maxRecDepth 100000
noncomputable def spec_LayoutOf_e0 (N : Nat) (d : Nat) (n : Nat) (v1 : Geo) (v5 : Int) (v6 : Int) : Option (HR [(.int .i64)]) :=
  loopN (advOf (spec_LayoutOf_E N d) (codeAt (bodyOf Try.f88) [1, 1, 1, 0, 1, 0, 0])) (evC (spec_LayoutOf_E N d) (codeAt (bodyOf Try.f88) [1, 1, 1, 0, 1, 0, 0])) n ⟨[(3, .pv (.int .i64) v5), (17, .pv (.list .geo) v1.kids), (18, .pv (.int .i64) (v1.kids.length : Int)), (19, .pv (.int .i64) v6)], [], []⟩ (kBlock 0 (kSeq (advOf (spec_LayoutOf_E N d) (codeAt (bodyOf Try.f88) [1, 1, 1, 1])) (evC (spec_LayoutOf_E N d) (codeAt (bodyOf Try.f88) [1, 1, 1, 1])) (kEnd (spec_LayoutOf_E N d) [] Try.f88.results.toList [(.int .i64)])))
theorem spec_LayoutOf_t0 (N : Nat) (d : Nat) : ∀ (n : Nat) (v1 : Geo) (v5 : Int) (v6 : Int), spec_LayoutOf_e0 N d n v1 v5 v6 = spec_LayoutOf_l0 N (spec_LayoutOf N d) n v1 v5 v6
  | 0, _, _, _ => rfl
  | n + 1, v1, v5, v6 => by
    have h : spec_LayoutOf_e0 N d n v1 = spec_LayoutOf_l0 N (spec_LayoutOf N d) n v1 := by funext v5 v6; exact spec_LayoutOf_t0 N d n v1 v5 v6
    exact (show spec_LayoutOf_e0 N d (n + 1) v1 v5 v6 = spec_LayoutOf_g0 N (spec_LayoutOf N d) v1 (spec_LayoutOf_e0 N d n v1) v5 v6 from by kernel_rfl).trans (by rw [h]; rfl)
theorem spec_LayoutOf_t (N : Nat) (d : Nat) (v1 : Geo) : evF (spec_LayoutOf_E N d) [] Try.f88 [.k .geo] [(.int .i64)] (v1, ()) = spec_LayoutOf N (d + 1) v1 := by
  have h0 : (spec_LayoutOf_e0 N d N) = (spec_LayoutOf_l0 N (spec_LayoutOf N d) N) := by funext v1 v5 v6; exact spec_LayoutOf_t0 N d N v1 v5 v6
  exact (show evF (spec_LayoutOf_E N d) [] Try.f88 [.k .geo] [(.int .i64)] (v1, ()) = spec_LayoutOf_g N (spec_LayoutOf N d) v1 (spec_LayoutOf_e0 N d N) from by kernel_rfl).trans (by rw [h0]; rfl)
theorem spec_LayoutOf_s' (N : Nat) : ∀ d, (spec_LayoutOf_con' N d).Sound Try.prog []
  | 0 => fun _ _ _ _ _ _ _ _ h => by cases h
  | d + 1 => Con.sound_of (c := spec_LayoutOf_con' N (d + 1)) (E := (spec_LayoutOf_E N d)) (idle := []) Try.func88 (by kernel_rfl) (by kernel_rfl) ⟨(allCons (spec_LayoutOf_s' N d) (allCons (spec_Cover_s N) allNil)), allNil, rfl⟩ allNil (fun x y h => (spec_LayoutOf_t N d x.1).trans h)
noncomputable def spec_LayoutOf_con (N : Nat) : Con := spec_LayoutOf_con' N N
theorem spec_LayoutOf_s (N : Nat) : (spec_LayoutOf_con N).Sound Try.prog [] := spec_LayoutOf_s' N N
/-- pub-orthodrome/spec.goodEnds -/
noncomputable def spec_goodEnds_E (N : Nat) : Env := ⟨Try.prog, N, [], [(0, ⟨[], [], [], [], [], [0, 1, 2, 3], [], none⟩), (1, ⟨[], [], [], [], [], [0, 1, 2, 3], [], none⟩), (2, ⟨[], [], [], [], [], [1, 2, 3, 12, 13, 14], [], none⟩), (3, ⟨[], [], [], [], [], [1, 2, 3, 12, 13, 14], [], none⟩), (4, ⟨[], [], [], [], [], [1, 2, 3, 11, 12, 13, 14], [], none⟩), (5, ⟨[], [], [], [], [], [1, 2, 3, 11, 12, 13, 14, 38], [], some N⟩), (6, ⟨[], [], [], [], [], [2, 3, 11, 12, 13, 14], [], some N⟩), (7, ⟨[], [], [], [], [], [1, 2, 3, 12, 13, 14], [], none⟩), (8, ⟨[], [], [], [], [], [1], [], none⟩)], kdL [], [], [], []⟩
def spec_goodEnds_g1 (N : Nat) (v3 : Int) (v4 : Bool) (v1 : (List Int)) (v6 : Int) (v8 : Int) (v7 : Int) (r0 : Int → Int → Option (Int × Bool)) : Option (Int × Bool) :=
  (some (v6, false))
def spec_goodEnds_j1 (N : Nat) (r0 : Int → Int → Option (Int × Bool)) (v3 : Int) (v4 : Bool) (v1 : (List Int)) (v6 : Int) (v8 : Int) (v7 : Int) : Option (Int × Bool) :=
  gate N (spec_goodEnds_g1 N v3 v4 v1 v6 v8 v7 r0)
def spec_goodEnds_g2 (N : Nat) (v3 : Int) (v4 : Bool) (v1 : (List Int)) (v8 : Int) (v7 : Int) (r0 : Int → Int → Option (Int × Bool)) : Option (Int × Bool) :=
  ((r0 v8 (IntKind.i64.wrap (v7 + 1))))
def spec_goodEnds_j2 (N : Nat) (r0 : Int → Int → Option (Int × Bool)) (v3 : Int) (v4 : Bool) (v1 : (List Int)) (v8 : Int) (v7 : Int) : Option (Int × Bool) :=
  gate N (spec_goodEnds_g2 N v3 v4 v1 v8 v7 r0)
def spec_goodEnds_g0 (N : Nat) (v3 : Int) (v4 : Bool) (v1 : (List Int)) (c1 : Int → Int → Int → Option (Int × Bool)) (c2 : Int → Int → Option (Int × Bool)) (r0 : Int → Int → Option (Int × Bool)) (v6 : Int) (v7 : Int) : Option (Int × Bool) :=
  (bif (decide ((v7 : Int) < (v1.length : Int))) then ((nth v1 v7).bind fun v8 => (bif (decide ((v8 : Int) < v6)) then (c1 v6 v8 v7) else (if v3 = 0 then none else bif ((Int.tmod (IntKind.i64.wrap (v8 - v6)) v3) != 0) then (c1 v6 v8 v7) else (bif v4 then (gate N (bif (decide (((IntKind.i64.wrap (v8 - v6)) : Int) > v3)) then (some (v6, false)) else (c2 v8 v7))) else (gate N (c2 v8 v7)))))) else (some (v6, true)))
def spec_goodEnds_l0 (N : Nat) : Nat → Int → Bool → (List Int) → Int → Int → Option (Int × Bool)
  | 0, _, _, _, _, _ => none
  | n + 1, v3, v4, v1, v6, v7 => spec_goodEnds_g0 N v3 v4 v1 (spec_goodEnds_j1 N (spec_goodEnds_l0 N n v3 v4 v1) v3 v4 v1) (spec_goodEnds_j2 N (spec_goodEnds_l0 N n v3 v4 v1) v3 v4 v1) (spec_goodEnds_l0 N n v3 v4 v1) v6 v7
def spec_goodEnds_g (N : Nat) (v1 : (List Int)) (v2 : Int) (v3 : Int) (v4 : Bool) (c0 : Int → Bool → (List Int) → Int → Int → Option (Int × Bool)) : Option (Int × Bool) :=
  ((c0 v3 v4 v1 v2 0))
def spec_goodEnds (N : Nat) (v1 : (List Int)) (v2 : Int) (v3 : Int) (v4 : Bool) : Option (Int × Bool) :=
  spec_goodEnds_g N v1 v2 v3 v4 (spec_goodEnds_l0 N N)
set_option maxRecDepth 100000
noncomputable def spec_goodEnds_e1 (N : Nat) (m0 : Nat) (v3 : Int) (v4 : Bool) (v1 : (List Int)) (v6 : Int) (v8 : Int) (v7 : Int) : Option (HR [(.int .i64), .bool]) :=
  gate N (evC (spec_goodEnds_E N) (codeAt (bodyOf Try.f89) [1, 0, 1, 0, 0, 1, 1, 0, 0, 1, 0, 1]) ⟨[(1, .pv (.int .i64) v6), (2, .pv (.int .i64) v3), (3, .pv .bool v4), (11, .pv (.int .i64) v8), (12, .pv (.list (.int .i64)) v1), (13, .pv (.int .i64) (v1.length : Int)), (14, .pv (.int .i64) v7), (38, .pv .bool true)], [], []⟩ (kSeq (advOf (spec_goodEnds_E N) (codeAt (bodyOf Try.f89) [1, 0, 1, 0, 0, 1, 1, 0, 0, 1, 1])) (evC (spec_goodEnds_E N) (codeAt (bodyOf Try.f89) [1, 0, 1, 0, 0, 1, 1, 0, 0, 1, 1])) (kBlock 1 (kSeq (advOf (spec_goodEnds_E N) (codeAt (bodyOf Try.f89) [1, 0, 1, 0, 0, 1, 1, 1])) (evC (spec_goodEnds_E N) (codeAt (bodyOf Try.f89) [1, 0, 1, 0, 0, 1, 1, 1])) (kSeq (advOf (spec_goodEnds_E N) (codeAt (bodyOf Try.f89) [1, 0, 1, 0, 0])) (fun st K => loopN (advOf (spec_goodEnds_E N) (codeAt (bodyOf Try.f89) [1, 0, 1, 0, 0])) (evC (spec_goodEnds_E N) (codeAt (bodyOf Try.f89) [1, 0, 1, 0, 0])) m0 st K) (kBlock 0 (kSeq (advOf (spec_goodEnds_E N) (codeAt (bodyOf Try.f89) [1, 1])) (evC (spec_goodEnds_E N) (codeAt (bodyOf Try.f89) [1, 1])) (kEnd (spec_goodEnds_E N) [] Try.f89.results.toList [(.int .i64), .bool]))))))))
noncomputable def spec_goodEnds_e2 (N : Nat) (m0 : Nat) (v3 : Int) (v4 : Bool) (v1 : (List Int)) (v8 : Int) (v7 : Int) : Option (HR [(.int .i64), .bool]) :=
  gate N (evC (spec_goodEnds_E N) (codeAt (bodyOf Try.f89) [1, 0, 1, 0, 0, 1, 1, 0, 0, 1, 1]) ⟨[(2, .pv (.int .i64) v3), (3, .pv .bool v4), (11, .pv (.int .i64) v8), (12, .pv (.list (.int .i64)) v1), (13, .pv (.int .i64) (v1.length : Int)), (14, .pv (.int .i64) v7)], [], []⟩ (kBlock 1 (kSeq (advOf (spec_goodEnds_E N) (codeAt (bodyOf Try.f89) [1, 0, 1, 0, 0, 1, 1, 1])) (evC (spec_goodEnds_E N) (codeAt (bodyOf Try.f89) [1, 0, 1, 0, 0, 1, 1, 1])) (kSeq (advOf (spec_goodEnds_E N) (codeAt (bodyOf Try.f89) [1, 0, 1, 0, 0])) (fun st K => loopN (advOf (spec_goodEnds_E N) (codeAt (bodyOf Try.f89) [1, 0, 1, 0, 0])) (evC (spec_goodEnds_E N) (codeAt (bodyOf Try.f89) [1, 0, 1, 0, 0])) m0 st K) (kBlock 0 (kSeq (advOf (spec_goodEnds_E N) (codeAt (bodyOf Try.f89) [1, 1])) (evC (spec_goodEnds_E N) (codeAt (bodyOf Try.f89) [1, 1])) (kEnd (spec_goodEnds_E N) [] Try.f89.results.toList [(.int .i64), .bool])))))))
noncomputable def spec_goodEnds_e0 (N : Nat) (n : Nat) (v3 : Int) (v4 : Bool) (v1 : (List Int)) (v6 : Int) (v7 : Int) : Option (HR [(.int .i64), .bool]) :=
  loopN (advOf (spec_goodEnds_E N) (codeAt (bodyOf Try.f89) [1, 0, 1, 0, 0])) (evC (spec_goodEnds_E N) (codeAt (bodyOf Try.f89) [1, 0, 1, 0, 0])) n ⟨[(1, .pv (.int .i64) v6), (2, .pv (.int .i64) v3), (3, .pv .bool v4), (12, .pv (.list (.int .i64)) v1), (13, .pv (.int .i64) (v1.length : Int)), (14, .pv (.int .i64) v7)], [], []⟩ (kBlock 0 (kSeq (advOf (spec_goodEnds_E N) (codeAt (bodyOf Try.f89) [1, 1])) (evC (spec_goodEnds_E N) (codeAt (bodyOf Try.f89) [1, 1])) (kEnd (spec_goodEnds_E N) [] Try.f89.results.toList [(.int .i64), .bool])))
theorem spec_goodEnds_t1 (N : Nat) (m0 : Nat) (v3 : Int) (v4 : Bool) (v1 : (List Int)) (v6 : Int) (v8 : Int) (v7 : Int) : spec_goodEnds_e1 N m0 v3 v4 v1 v6 v8 v7 = spec_goodEnds_j1 N (spec_goodEnds_e0 N m0 v3 v4 v1) v3 v4 v1 v6 v8 v7 := by
  exact (congrArg (gate N) (show evC (spec_goodEnds_E N) (codeAt (bodyOf Try.f89) [1, 0, 1, 0, 0, 1, 1, 0, 0, 1, 0, 1]) ⟨[(1, .pv (.int .i64) v6), (2, .pv (.int .i64) v3), (3, .pv .bool v4), (11, .pv (.int .i64) v8), (12, .pv (.list (.int .i64)) v1), (13, .pv (.int .i64) (v1.length : Int)), (14, .pv (.int .i64) v7), (38, .pv .bool true)], [], []⟩ (kSeq (advOf (spec_goodEnds_E N) (codeAt (bodyOf Try.f89) [1, 0, 1, 0, 0, 1, 1, 0, 0, 1, 1])) (evC (spec_goodEnds_E N) (codeAt (bodyOf Try.f89) [1, 0, 1, 0, 0, 1, 1, 0, 0, 1, 1])) (kBlock 1 (kSeq (advOf (spec_goodEnds_E N) (codeAt (bodyOf Try.f89) [1, 0, 1, 0, 0, 1, 1, 1])) (evC (spec_goodEnds_E N) (codeAt (bodyOf Try.f89) [1, 0, 1, 0, 0, 1, 1, 1])) (kSeq (advOf (spec_goodEnds_E N) (codeAt (bodyOf Try.f89) [1, 0, 1, 0, 0])) (fun st K => loopN (advOf (spec_goodEnds_E N) (codeAt (bodyOf Try.f89) [1, 0, 1, 0, 0])) (evC (spec_goodEnds_E N) (codeAt (bodyOf Try.f89) [1, 0, 1, 0, 0])) m0 st K) (kBlock 0 (kSeq (advOf (spec_goodEnds_E N) (codeAt (bodyOf Try.f89) [1, 1])) (evC (spec_goodEnds_E N) (codeAt (bodyOf Try.f89) [1, 1])) (kEnd (spec_goodEnds_E N) [] Try.f89.results.toList [(.int .i64), .bool]))))))) = spec_goodEnds_g1 N v3 v4 v1 v6 v8 v7 (spec_goodEnds_e0 N m0 v3 v4 v1) from by kernel_rfl)).trans (by rfl)
theorem spec_goodEnds_t2 (N : Nat) (m0 : Nat) (v3 : Int) (v4 : Bool) (v1 : (List Int)) (v8 : Int) (v7 : Int) : spec_goodEnds_e2 N m0 v3 v4 v1 v8 v7 = spec_goodEnds_j2 N (spec_goodEnds_e0 N m0 v3 v4 v1) v3 v4 v1 v8 v7 := by
  exact (congrArg (gate N) (show evC (spec_goodEnds_E N) (codeAt (bodyOf Try.f89) [1, 0, 1, 0, 0, 1, 1, 0, 0, 1, 1]) ⟨[(2, .pv (.int .i64) v3), (3, .pv .bool v4), (11, .pv (.int .i64) v8), (12, .pv (.list (.int .i64)) v1), (13, .pv (.int .i64) (v1.length : Int)), (14, .pv (.int .i64) v7)], [], []⟩ (kBlock 1 (kSeq (advOf (spec_goodEnds_E N) (codeAt (bodyOf Try.f89) [1, 0, 1, 0, 0, 1, 1, 1])) (evC (spec_goodEnds_E N) (codeAt (bodyOf Try.f89) [1, 0, 1, 0, 0, 1, 1, 1])) (kSeq (advOf (spec_goodEnds_E N) (codeAt (bodyOf Try.f89) [1, 0, 1, 0, 0])) (fun st K => loopN (advOf (spec_goodEnds_E N) (codeAt (bodyOf Try.f89) [1, 0, 1, 0, 0])) (evC (spec_goodEnds_E N) (codeAt (bodyOf Try.f89) [1, 0, 1, 0, 0])) m0 st K) (kBlock 0 (kSeq (advOf (spec_goodEnds_E N) (codeAt (bodyOf Try.f89) [1, 1])) (evC (spec_goodEnds_E N) (codeAt (bodyOf Try.f89) [1, 1])) (kEnd (spec_goodEnds_E N) [] Try.f89.results.toList [(.int .i64), .bool])))))) = spec_goodEnds_g2 N v3 v4 v1 v8 v7 (spec_goodEnds_e0 N m0 v3 v4 v1) from by kernel_rfl)).trans (by rfl)
theorem spec_goodEnds_t0 (N : Nat) : ∀ (n : Nat) (v3 : Int) (v4 : Bool) (v1 : (List Int)) (v6 : Int) (v7 : Int), spec_goodEnds_e0 N n v3 v4 v1 v6 v7 = spec_goodEnds_l0 N n v3 v4 v1 v6 v7
  | 0, _, _, _, _, _ => rfl
  | n + 1, v3, v4, v1, v6, v7 => by
    have h1 : (spec_goodEnds_e1 N n v3 v4 v1) = (spec_goodEnds_j1 N (spec_goodEnds_e0 N n v3 v4 v1) v3 v4 v1) := by funext v6 v8 v7; exact spec_goodEnds_t1 N n v3 v4 v1 v6 v8 v7
    have h2 : (spec_goodEnds_e2 N n v3 v4 v1) = (spec_goodEnds_j2 N (spec_goodEnds_e0 N n v3 v4 v1) v3 v4 v1) := by funext v8 v7; exact spec_goodEnds_t2 N n v3 v4 v1 v8 v7
    have h : spec_goodEnds_e0 N n v3 v4 v1 = spec_goodEnds_l0 N n v3 v4 v1 := by funext v6 v7; exact spec_goodEnds_t0 N n v3 v4 v1 v6 v7
    exact (show spec_goodEnds_e0 N (n + 1) v3 v4 v1 v6 v7 = spec_goodEnds_g0 N v3 v4 v1 (spec_goodEnds_e1 N n v3 v4 v1) (spec_goodEnds_e2 N n v3 v4 v1) (spec_goodEnds_e0 N n v3 v4 v1) v6 v7 from by kernel_rfl).trans (by rw [h1, h2, h]; rfl)
theorem spec_goodEnds_t (N : Nat) (v1 : (List Int)) (v2 : Int) (v3 : Int) (v4 : Bool) : evF (spec_goodEnds_E N) [] Try.f89 [.k (.list (.int .i64)), .k (.int .i64), .k (.int .i64), .k .bool] [(.int .i64), .bool] (v1, v2, v3, v4, ()) = spec_goodEnds N v1 v2 v3 v4 := by
  have h0 : (spec_goodEnds_e0 N N) = (spec_goodEnds_l0 N N) := by funext v3 v4 v1 v6 v7; exact spec_goodEnds_t0 N N v3 v4 v1 v6 v7
  exact (show evF (spec_goodEnds_E N) [] Try.f89 [.k (.list (.int .i64)), .k (.int .i64), .k (.int .i64), .k .bool] [(.int .i64), .bool] (v1, v2, v3, v4, ()) = spec_goodEnds_g N v1 v2 v3 v4 (spec_goodEnds_e0 N N) from by kernel_rfl).trans (by rw [h0]; rfl)
noncomputable def spec_goodEnds_con (N : Nat) : Con := ⟨89, [.k (.list (.int .i64)), .k (.int .i64), .k (.int .i64), .k .bool], [(.int .i64), .bool], fun x => spec_goodEnds N x.1 x.2.1 x.2.2.1 x.2.2.2.1⟩
theorem spec_goodEnds_s (N : Nat) : (spec_goodEnds_con N).Sound Try.prog [] :=
  Con.sound_of (c := spec_goodEnds_con N) (E := (spec_goodEnds_E N)) (idle := []) Try.func89 (by kernel_rfl) (by kernel_rfl) ⟨allNil, allNil, rfl⟩ allNil (fun x y h => (spec_goodEnds_t N x.1 x.2.1 x.2.2.1 x.2.2.2.1).trans h)
/-- pub-orthodrome/spec.Good -/
def spec_Good_g1 (N : Nat) (self : Geo → Option (Bool)) (v1 : Geo) (v6 : Int) (r0 : Int → Option (Bool)) : Option (Bool) :=
  (r0 (IntKind.i64.wrap (v6 + 1)))
def spec_Good_j1 (N : Nat) (self : Geo → Option (Bool)) (r0 : Int → Option (Bool)) (v1 : Geo) (v6 : Int) : Option (Bool) :=
  gate N (spec_Good_g1 N self v1 v6 r0)
def spec_Good_g0 (N : Nat) (self : Geo → Option (Bool)) (v1 : Geo) (c1 : Int → Option (Bool)) (r0 : Int → Option (Bool)) (v6 : Int) : Option (Bool) :=
  (bif (decide ((v6 : Int) < (v1.kids.length : Int))) then ((nth v1.kids v6).bind fun v7 => ((self (Geo.mk v7.kind v7.layout v7.srid v7.flat v7.ends v7.endss v7.kids)).bind fun v8 => bif (!v8) then (some false) else (bif (v1.layout != 0) then ((spec_LayoutOf N N (Geo.mk v7.kind v7.layout v7.srid v7.flat v7.ends v7.endss v7.kids)).bind fun v9 => (bif (v9 != v1.layout) then (some false) else (c1 v6))) else (c1 v6)))) else (bif (decide ((v1.layout : Int) ≥ 0)) then (some ((IntKind.i64.wrap ((IntKind.i64.wrap ((v1.flat.length : Int) + (v1.ends.length : Int))) + (v1.endss.length : Int))) == 0)) else (some false)))
def spec_Good_l0 (N : Nat) (self : Geo → Option (Bool)) : Nat → Geo → Int → Option (Bool)
  | 0, _, _ => none
  | n + 1, v1, v6 => spec_Good_g0 N self v1 (spec_Good_j1 N self (spec_Good_l0 N self n v1) v1) (spec_Good_l0 N self n v1) v6
def spec_Good_g2 (N : Nat) (self : Geo → Option (Bool)) (v2 : Int) (v1 : Geo) : Option (Bool) :=
  (some false)
def spec_Good_j2 (N : Nat) (self : Geo → Option (Bool)) (v2 : Int) (v1 : Geo) : Option (Bool) :=
  gate N (spec_Good_g2 N self v2 v1)
def spec_Good_g7 (N : Nat) (self : Geo → Option (Bool)) (v2 : Int) (v1 : Geo) (v19 : (Int × Bool)) (v17 : Int) (r6 : Int → Bool → Int → Option (Bool)) (v20 : Bool) : Option (Bool) :=
  (r6 v19.1 v20 (IntKind.i64.wrap (v17 + 1)))
def spec_Good_j7 (N : Nat) (self : Geo → Option (Bool)) (r6 : Int → Bool → Int → Option (Bool)) (v2 : Int) (v1 : Geo) (v19 : (Int × Bool)) (v17 : Int) (v20 : Bool) : Option (Bool) :=
  gate N (spec_Good_g7 N self v2 v1 v19 v17 r6 v20)
def spec_Good_g6 (N : Nat) (self : Geo → Option (Bool)) (v2 : Int) (v1 : Geo) (c7 : (Int × Bool) → Int → Bool → Option (Bool)) (r6 : Int → Bool → Int → Option (Bool)) (v15 : Int) (v16 : Bool) (v17 : Int) : Option (Bool) :=
  (bif (decide ((v17 : Int) < (v1.endss.length : Int))) then ((nth v1.endss v17).bind fun v18 => ((spec_goodEnds N v18 v15 v2 false).bind fun v19 => (bif v16 then (c7 v19 v17 v19.2) else (c7 v19 v17 false)))) else (bif v16 then (bif (v15 == (v1.flat.length : Int)) then (some ((v1.ends.length : Int) == 0)) else (some false)) else (some false)))
def spec_Good_l6 (N : Nat) (self : Geo → Option (Bool)) : Nat → Int → Geo → Int → Bool → Int → Option (Bool)
  | 0, _, _, _, _, _ => none
  | n + 1, v2, v1, v15, v16, v17 => spec_Good_g6 N self v2 v1 (spec_Good_j7 N self (spec_Good_l6 N self n v2 v1) v2 v1) (spec_Good_l6 N self n v2 v1) v15 v16 v17
def spec_Good_g5 (N : Nat) (self : Geo → Option (Bool)) (v2 : Int) (v1 : Geo) (c6 : Int → Geo → Int → Bool → Int → Option (Bool)) (v11 : Bool) : Option (Bool) :=
  bif v11 then ((spec_goodEnds N v1.ends 0 v2 (v1.kind == 4)).bind fun v12 => (bif v12.2 then (some (v12.1 == (v1.flat.length : Int))) else (some false))) else (bif (v1.kind == 6) then ((c6 v2 v1 0 true 0)) else (some false))
def spec_Good_j5 (N : Nat) (self : Geo → Option (Bool)) (v2 : Int) (v1 : Geo) (v11 : Bool) : Option (Bool) :=
  gate N (spec_Good_g5 N self v2 v1 (spec_Good_l6 N self N) v11)
def spec_Good_g4 (N : Nat) (self : Geo → Option (Bool)) (v2 : Int) (v1 : Geo) (c5 : Int → Geo → Bool → Option (Bool)) (v10 : Bool) : Option (Bool) :=
  bif v10 then (some ((v1.ends.length : Int) == 0)) else (bif (v1.kind == 3) then (c5 v2 v1 (v1.kind == 3)) else (bif (v1.kind == 4) then (c5 v2 v1 (v1.kind == 4)) else (c5 v2 v1 (v1.kind == 5))))
def spec_Good_j4 (N : Nat) (self : Geo → Option (Bool)) (v2 : Int) (v1 : Geo) (v10 : Bool) : Option (Bool) :=
  gate N (spec_Good_g4 N self v2 v1 (spec_Good_j5 N self) v10)
def spec_Good_g3 (N : Nat) (self : Geo → Option (Bool)) (v2 : Int) (v1 : Geo) (c4 : Int → Geo → Bool → Option (Bool)) : Option (Bool) :=
  (bif (v1.kind == 1) then (bif ((v1.ends.length : Int) == 0) then (some (decide (((v1.flat.length : Int) : Int) ≤ v2))) else (some false)) else (bif (v1.kind == 2) then (c4 v2 v1 (v1.kind == 2)) else (c4 v2 v1 (v1.kind == 8))))
def spec_Good_j3 (N : Nat) (self : Geo → Option (Bool)) (v2 : Int) (v1 : Geo) : Option (Bool) :=
  gate N (spec_Good_g3 N self v2 v1 (spec_Good_j4 N self))
def spec_Good_g (N : Nat) (self : Geo → Option (Bool)) (v1 : Geo) (c0 : Geo → Int → Option (Bool)) (c2 : Int → Geo → Option (Bool)) (c3 : Int → Geo → Option (Bool)) : Option (Bool) :=
  ((spec_Stride N v1.layout).bind fun v2 => (bif (v1.kind == 7) then ((c0 v1 0)) else (bif (v2 == 0) then (c2 v2 v1) else (if v2 = 0 then none else bif ((Int.tmod (v1.flat.length : Int) v2) != 0) then (c2 v2 v1) else (bif (decide (((v1.kids.length : Int) : Int) > 0)) then (c2 v2 v1) else (bif (decide (((v1.endss.length : Int) : Int) > 0)) then (gate N (bif (v1.kind != 6) then (some false) else (c3 v2 v1))) else (gate N (c3 v2 v1))))))))
def spec_Good (N : Nat) : Nat → Geo → Option (Bool)
  | 0, _ => none
  | d + 1, v1 => spec_Good_g N (spec_Good N d) v1 (spec_Good_l0 N (spec_Good N d) N) (spec_Good_j2 N (spec_Good N d)) (spec_Good_j3 N (spec_Good N d))
noncomputable def spec_Good_con' (N : Nat) (d : Nat) : Con := ⟨44, [.k .geo], [.bool], fun x => spec_Good N d x.1⟩
noncomputable def spec_Good_E (N : Nat) (d : Nat) : Env := ⟨Try.prog, N, [spec_Good_con' N d, spec_Stride_con N, spec_LayoutOf_con N, spec_goodEnds_con N], [(0, ⟨[], [], [], [], [], [0], [], none⟩), (1, ⟨[], [], [], [], [], [1], [1], none⟩), (2, ⟨[], [], [], [], [], [1, 3], [1], none⟩), (3, ⟨[], [], [], [], [], [1, 3, 18], [1], none⟩), (4, ⟨[], [], [], [], [], [1, 20, 21, 22], [1], none⟩), (5, ⟨[], [], [], [], [], [1, 20, 21, 22], [1], none⟩), (6, ⟨[], [], [], [], [], [1, 5, 20, 21, 22], [1, 5], none⟩), (7, ⟨[], [], [], [], [], [1, 20, 21, 22, 40], [1], none⟩), (8, ⟨[], [], [], [], [], [1, 20, 21, 22], [1], some N⟩), (9, ⟨[], [], [], [], [], [1], [1], none⟩), (10, ⟨[], [], [], [], [], [1, 3], [1], none⟩), (11, ⟨[], [], [], [], [], [1, 3, 85], [1], some N⟩), (12, ⟨[], [], [], [], [], [1, 3], [1], some N⟩), (13, ⟨[], [], [], [], [], [1, 3, 87], [1], none⟩), (14, ⟨[], [], [], [], [], [1, 3, 87, 88], [1], none⟩), (16, ⟨[], [], [], [], [], [1, 3, 87, 101], [1], none⟩), (17, ⟨[], [], [], [], [], [1, 3, 87, 101], [1], some N⟩), (19, ⟨[], [], [], [], [], [1, 3, 87, 108], [1], none⟩), (20, ⟨[], [], [], [], [], [1, 3, 87, 108], [1], none⟩), (21, ⟨[], [], [], [], [], [1, 3, 87, 108], [1], some N⟩), (22, ⟨[], [], [], [], [], [1, 6, 7], [1], none⟩), (24, ⟨[], [], [], [], [], [1, 3, 130], [1], none⟩), (25, ⟨[], [], [], [], [], [1, 3, 8, 9], [1], none⟩), (26, ⟨[], [], [], [], [], [1, 3, 8, 9, 133, 134, 135], [1], none⟩), (27, ⟨[], [], [], [], [], [1, 3, 8, 9, 133, 134, 135], [1], none⟩), (28, ⟨[], [], [], [], [], [1, 3, 8, 9, 11, 133, 134, 135], [1], none⟩), (29, ⟨[], [], [], [], [], [1, 3, 8, 9, 11, 133, 134, 135], [1], none⟩), (30, ⟨[], [], [], [], [], [1, 3, 8, 9, 12, 133, 134, 135], [1], none⟩), (31, ⟨[], [], [], [], [], [1, 3, 8, 9, 133, 134, 135], [1], some N⟩), (32, ⟨[], [], [], [], [], [1, 8, 9], [1], none⟩), (33, ⟨[], [], [], [], [], [], [], none⟩)], kdL [], [], [], []⟩
set_option maxRecDepth 100000
noncomputable def spec_Good_e1 (N : Nat) (d : Nat) (m0 : Nat) (v1 : Geo) (v6 : Int) : Option (HR [.bool]) :=
  gate N (evC (spec_Good_E N d) (codeAt (bodyOf Try.f44) [1, 1, 0, 1, 0, 0, 1, 0, 0, 1, 1, 1]) ⟨[(1, .ref 1 0), (20, .pv (.list .geo) v1.kids), (21, .pv (.int .i64) (v1.kids.length : Int)), (22, .pv (.int .i64) v6)], [(1, .box [.pv (.int .i64) v1.kind, .pv (.int .i64) v1.layout, .pv (.int .i64) v1.srid, .pv (.list .float) v1.flat, .pv (.list (.int .i64)) v1.ends, .pv (.list (.list (.int .i64))) v1.endss, .pv (.list .geo) v1.kids])], []⟩ (kSeq (advOf (spec_Good_E N d) (codeAt (bodyOf Try.f44) [1, 1, 0, 1, 0, 0, 1, 0, 0])) (fun st K => loopN (advOf (spec_Good_E N d) (codeAt (bodyOf Try.f44) [1, 1, 0, 1, 0, 0, 1, 0, 0])) (evC (spec_Good_E N d) (codeAt (bodyOf Try.f44) [1, 1, 0, 1, 0, 0, 1, 0, 0])) m0 st K) (kBlock 0 (kSeq (advOf (spec_Good_E N d) (codeAt (bodyOf Try.f44) [1, 1, 0, 1, 0, 1])) (evC (spec_Good_E N d) (codeAt (bodyOf Try.f44) [1, 1, 0, 1, 0, 1])) (kSeq (advOf (spec_Good_E N d) (codeAt (bodyOf Try.f44) [1, 1, 1])) (evC (spec_Good_E N d) (codeAt (bodyOf Try.f44) [1, 1, 1])) (kEnd (spec_Good_E N d) [] Try.f44.results.toList [.bool]))))))
noncomputable def spec_Good_e0 (N : Nat) (d : Nat) (n : Nat) (v1 : Geo) (v6 : Int) : Option (HR [.bool]) :=
  loopN (advOf (spec_Good_E N d) (codeAt (bodyOf Try.f44) [1, 1, 0, 1, 0, 0, 1, 0, 0])) (evC (spec_Good_E N d) (codeAt (bodyOf Try.f44) [1, 1, 0, 1, 0, 0, 1, 0, 0])) n ⟨[(1, .ref 1 0), (20, .pv (.list .geo) v1.kids), (21, .pv (.int .i64) (v1.kids.length : Int)), (22, .pv (.int .i64) v6)], [(1, .box [.pv (.int .i64) v1.kind, .pv (.int .i64) v1.layout, .pv (.int .i64) v1.srid, .pv (.list .float) v1.flat, .pv (.list (.int .i64)) v1.ends, .pv (.list (.list (.int .i64))) v1.endss, .pv (.list .geo) v1.kids])], []⟩ (kBlock 0 (kSeq (advOf (spec_Good_E N d) (codeAt (bodyOf Try.f44) [1, 1, 0, 1, 0, 1])) (evC (spec_Good_E N d) (codeAt (bodyOf Try.f44) [1, 1, 0, 1, 0, 1])) (kSeq (advOf (spec_Good_E N d) (codeAt (bodyOf Try.f44) [1, 1, 1])) (evC (spec_Good_E N d) (codeAt (bodyOf Try.f44) [1, 1, 1])) (kEnd (spec_Good_E N d) [] Try.f44.results.toList [.bool]))))
noncomputable def spec_Good_e2 (N : Nat) (d : Nat) (v2 : Int) (v1 : Geo) : Option (HR [.bool]) :=
  gate N (evC (spec_Good_E N d) (codeAt (bodyOf Try.f44) [1, 1, 1, 0, 1]) ⟨[(1, .ref 1 0), (3, .pv (.int .i64) v2), (85, .pv .bool true)], [(1, .box [.pv (.int .i64) v1.kind, .pv (.int .i64) v1.layout, .pv (.int .i64) v1.srid, .pv (.list .float) v1.flat, .pv (.list (.int .i64)) v1.ends, .pv (.list (.list (.int .i64))) v1.endss, .pv (.list .geo) v1.kids])], []⟩ (kSeq (advOf (spec_Good_E N d) (codeAt (bodyOf Try.f44) [1, 1, 1, 1])) (evC (spec_Good_E N d) (codeAt (bodyOf Try.f44) [1, 1, 1, 1])) (kEnd (spec_Good_E N d) [] Try.f44.results.toList [.bool])))
noncomputable def spec_Good_e7 (N : Nat) (d : Nat) (m6 : Nat) (v2 : Int) (v1 : Geo) (v19 : (Int × Bool)) (v17 : Int) (v20 : Bool) : Option (HR [.bool]) :=
  gate N (evC (spec_Good_E N d) (codeAt (bodyOf Try.f44) [1, 1, 1, 1, 0, 1, 0, 1, 1, 1, 1, 1, 1, 1, 0, 1, 0, 1, 0, 0, 1, 1, 1]) ⟨[(1, .ref 1 0), (3, .pv (.int .i64) v2), (8, .pv (.int .i64) v19.1), (9, .pv .bool v20), (133, .pv (.list (.list (.int .i64))) v1.endss), (134, .pv (.int .i64) (v1.endss.length : Int)), (135, .pv (.int .i64) v17)], [(1, .box [.pv (.int .i64) v1.kind, .pv (.int .i64) v1.layout, .pv (.int .i64) v1.srid, .pv (.list .float) v1.flat, .pv (.list (.int .i64)) v1.ends, .pv (.list (.list (.int .i64))) v1.endss, .pv (.list .geo) v1.kids])], []⟩ (kSeq (advOf (spec_Good_E N d) (codeAt (bodyOf Try.f44) [1, 1, 1, 1, 0, 1, 0, 1, 1, 1, 1, 1, 1, 1, 0, 1, 0, 1, 0, 0])) (fun st K => loopN (advOf (spec_Good_E N d) (codeAt (bodyOf Try.f44) [1, 1, 1, 1, 0, 1, 0, 1, 1, 1, 1, 1, 1, 1, 0, 1, 0, 1, 0, 0])) (evC (spec_Good_E N d) (codeAt (bodyOf Try.f44) [1, 1, 1, 1, 0, 1, 0, 1, 1, 1, 1, 1, 1, 1, 0, 1, 0, 1, 0, 0])) m6 st K) (kBlock 3 (kSeq (advOf (spec_Good_E N d) (codeAt (bodyOf Try.f44) [1, 1, 1, 1, 0, 1, 0, 1, 1, 1, 1, 1, 1, 1, 0, 1, 1])) (evC (spec_Good_E N d) (codeAt (bodyOf Try.f44) [1, 1, 1, 1, 0, 1, 0, 1, 1, 1, 1, 1, 1, 1, 0, 1, 1])) (kBlock 2 (kSeq (advOf (spec_Good_E N d) (codeAt (bodyOf Try.f44) [1, 1, 1, 1, 1])) (evC (spec_Good_E N d) (codeAt (bodyOf Try.f44) [1, 1, 1, 1, 1])) (kEnd (spec_Good_E N d) [] Try.f44.results.toList [.bool])))))))
noncomputable def spec_Good_e6 (N : Nat) (d : Nat) (n : Nat) (v2 : Int) (v1 : Geo) (v15 : Int) (v16 : Bool) (v17 : Int) : Option (HR [.bool]) :=
  loopN (advOf (spec_Good_E N d) (codeAt (bodyOf Try.f44) [1, 1, 1, 1, 0, 1, 0, 1, 1, 1, 1, 1, 1, 1, 0, 1, 0, 1, 0, 0])) (evC (spec_Good_E N d) (codeAt (bodyOf Try.f44) [1, 1, 1, 1, 0, 1, 0, 1, 1, 1, 1, 1, 1, 1, 0, 1, 0, 1, 0, 0])) n ⟨[(1, .ref 1 0), (3, .pv (.int .i64) v2), (8, .pv (.int .i64) v15), (9, .pv .bool v16), (133, .pv (.list (.list (.int .i64))) v1.endss), (134, .pv (.int .i64) (v1.endss.length : Int)), (135, .pv (.int .i64) v17)], [(1, .box [.pv (.int .i64) v1.kind, .pv (.int .i64) v1.layout, .pv (.int .i64) v1.srid, .pv (.list .float) v1.flat, .pv (.list (.int .i64)) v1.ends, .pv (.list (.list (.int .i64))) v1.endss, .pv (.list .geo) v1.kids])], []⟩ (kBlock 3 (kSeq (advOf (spec_Good_E N d) (codeAt (bodyOf Try.f44) [1, 1, 1, 1, 0, 1, 0, 1, 1, 1, 1, 1, 1, 1, 0, 1, 1])) (evC (spec_Good_E N d) (codeAt (bodyOf Try.f44) [1, 1, 1, 1, 0, 1, 0, 1, 1, 1, 1, 1, 1, 1, 0, 1, 1])) (kBlock 2 (kSeq (advOf (spec_Good_E N d) (codeAt (bodyOf Try.f44) [1, 1, 1, 1, 1])) (evC (spec_Good_E N d) (codeAt (bodyOf Try.f44) [1, 1, 1, 1, 1])) (kEnd (spec_Good_E N d) [] Try.f44.results.toList [.bool])))))
noncomputable def spec_Good_e5 (N : Nat) (d : Nat) (v2 : Int) (v1 : Geo) (v11 : Bool) : Option (HR [.bool]) :=
  gate N (evC (spec_Good_E N d) (codeAt (bodyOf Try.f44) [1, 1, 1, 1, 0, 1, 0, 1, 1, 1, 1, 1]) ⟨[(1, .ref 1 0), (3, .pv (.int .i64) v2), (87, .pv (.int .i64) v1.kind), (108, .pv .bool v11)], [(1, .box [.pv (.int .i64) v1.kind, .pv (.int .i64) v1.layout, .pv (.int .i64) v1.srid, .pv (.list .float) v1.flat, .pv (.list (.int .i64)) v1.ends, .pv (.list (.list (.int .i64))) v1.endss, .pv (.list .geo) v1.kids])], []⟩ (kBlock 2 (kSeq (advOf (spec_Good_E N d) (codeAt (bodyOf Try.f44) [1, 1, 1, 1, 1])) (evC (spec_Good_E N d) (codeAt (bodyOf Try.f44) [1, 1, 1, 1, 1])) (kEnd (spec_Good_E N d) [] Try.f44.results.toList [.bool]))))
noncomputable def spec_Good_e4 (N : Nat) (d : Nat) (v2 : Int) (v1 : Geo) (v10 : Bool) : Option (HR [.bool]) :=
  gate N (evC (spec_Good_E N d) (codeAt (bodyOf Try.f44) [1, 1, 1, 1, 0, 1, 0, 1, 1, 1]) ⟨[(1, .ref 1 0), (3, .pv (.int .i64) v2), (87, .pv (.int .i64) v1.kind), (101, .pv .bool v10)], [(1, .box [.pv (.int .i64) v1.kind, .pv (.int .i64) v1.layout, .pv (.int .i64) v1.srid, .pv (.list .float) v1.flat, .pv (.list (.int .i64)) v1.ends, .pv (.list (.list (.int .i64))) v1.endss, .pv (.list .geo) v1.kids])], []⟩ (kBlock 2 (kSeq (advOf (spec_Good_E N d) (codeAt (bodyOf Try.f44) [1, 1, 1, 1, 1])) (evC (spec_Good_E N d) (codeAt (bodyOf Try.f44) [1, 1, 1, 1, 1])) (kEnd (spec_Good_E N d) [] Try.f44.results.toList [.bool]))))
noncomputable def spec_Good_e3 (N : Nat) (d : Nat) (v2 : Int) (v1 : Geo) : Option (HR [.bool]) :=
  gate N (evC (spec_Good_E N d) (codeAt (bodyOf Try.f44) [1, 1, 1, 1]) ⟨[(1, .ref 1 0), (3, .pv (.int .i64) v2)], [(1, .box [.pv (.int .i64) v1.kind, .pv (.int .i64) v1.layout, .pv (.int .i64) v1.srid, .pv (.list .float) v1.flat, .pv (.list (.int .i64)) v1.ends, .pv (.list (.list (.int .i64))) v1.endss, .pv (.list .geo) v1.kids])], []⟩ (kEnd (spec_Good_E N d) [] Try.f44.results.toList [.bool]))
theorem spec_Good_t1 (N : Nat) (d : Nat) (m0 : Nat) (v1 : Geo) (v6 : Int) : spec_Good_e1 N d m0 v1 v6 = spec_Good_j1 N (spec_Good N d) (spec_Good_e0 N d m0 v1) v1 v6 := by
  exact (congrArg (gate N) (show evC (spec_Good_E N d) (codeAt (bodyOf Try.f44) [1, 1, 0, 1, 0, 0, 1, 0, 0, 1, 1, 1]) ⟨[(1, .ref 1 0), (20, .pv (.list .geo) v1.kids), (21, .pv (.int .i64) (v1.kids.length : Int)), (22, .pv (.int .i64) v6)], [(1, .box [.pv (.int .i64) v1.kind, .pv (.int .i64) v1.layout, .pv (.int .i64) v1.srid, .pv (.list .float) v1.flat, .pv (.list (.int .i64)) v1.ends, .pv (.list (.list (.int .i64))) v1.endss, .pv (.list .geo) v1.kids])], []⟩ (kSeq (advOf (spec_Good_E N d) (codeAt (bodyOf Try.f44) [1, 1, 0, 1, 0, 0, 1, 0, 0])) (fun st K => loopN (advOf (spec_Good_E N d) (codeAt (bodyOf Try.f44) [1, 1, 0, 1, 0, 0, 1, 0, 0])) (evC (spec_Good_E N d) (codeAt (bodyOf Try.f44) [1, 1, 0, 1, 0, 0, 1, 0, 0])) m0 st K) (kBlock 0 (kSeq (advOf (spec_Good_E N d) (codeAt (bodyOf Try.f44) [1, 1, 0, 1, 0, 1])) (evC (spec_Good_E N d) (codeAt (bodyOf Try.f44) [1, 1, 0, 1, 0, 1])) (kSeq (advOf (spec_Good_E N d) (codeAt (bodyOf Try.f44) [1, 1, 1])) (evC (spec_Good_E N d) (codeAt (bodyOf Try.f44) [1, 1, 1])) (kEnd (spec_Good_E N d) [] Try.f44.results.toList [.bool]))))) = spec_Good_g1 N (spec_Good N d) v1 v6 (spec_Good_e0 N d m0 v1) from by kernel_rfl)).trans (by rfl)
theorem spec_Good_t0 (N : Nat) (d : Nat) : ∀ (n : Nat) (v1 : Geo) (v6 : Int), spec_Good_e0 N d n v1 v6 = spec_Good_l0 N (spec_Good N d) n v1 v6
  | 0, _, _ => rfl
  | n + 1, v1, v6 => by
    have h1 : (spec_Good_e1 N d n v1) = (spec_Good_j1 N (spec_Good N d) (spec_Good_e0 N d n v1) v1) := by funext v6; exact spec_Good_t1 N d n v1 v6
    have h : spec_Good_e0 N d n v1 = spec_Good_l0 N (spec_Good N d) n v1 := by funext v6; exact spec_Good_t0 N d n v1 v6
    exact (show spec_Good_e0 N d (n + 1) v1 v6 = spec_Good_g0 N (spec_Good N d) v1 (spec_Good_e1 N d n v1) (spec_Good_e0 N d n v1) v6 from by kernel_rfl).trans (by rw [h1, h]; rfl)
theorem spec_Good_t2 (N : Nat) (d : Nat) (v2 : Int) (v1 : Geo) : spec_Good_e2 N d v2 v1 = spec_Good_j2 N (spec_Good N d) v2 v1 := by
  exact (congrArg (gate N) (show evC (spec_Good_E N d) (codeAt (bodyOf Try.f44) [1, 1, 1, 0, 1]) ⟨[(1, .ref 1 0), (3, .pv (.int .i64) v2), (85, .pv .bool true)], [(1, .box [.pv (.int .i64) v1.kind, .pv (.int .i64) v1.layout, .pv (.int .i64) v1.srid, .pv (.list .float) v1.flat, .pv (.list (.int .i64)) v1.ends, .pv (.list (.list (.int .i64))) v1.endss, .pv (.list .geo) v1.kids])], []⟩ (kSeq (advOf (spec_Good_E N d) (codeAt (bodyOf Try.f44) [1, 1, 1, 1])) (evC (spec_Good_E N d) (codeAt (bodyOf Try.f44) [1, 1, 1, 1])) (kEnd (spec_Good_E N d) [] Try.f44.results.toList [.bool])) = spec_Good_g2 N (spec_Good N d) v2 v1 from by kernel_rfl)).trans (by rfl)
theorem spec_Good_t7 (N : Nat) (d : Nat) (m6 : Nat) (v2 : Int) (v1 : Geo) (v19 : (Int × Bool)) (v17 : Int) (v20 : Bool) : spec_Good_e7 N d m6 v2 v1 v19 v17 v20 = spec_Good_j7 N (spec_Good N d) (spec_Good_e6 N d m6 v2 v1) v2 v1 v19 v17 v20 := by
  exact (congrArg (gate N) (show evC (spec_Good_E N d) (codeAt (bodyOf Try.f44) [1, 1, 1, 1, 0, 1, 0, 1, 1, 1, 1, 1, 1, 1, 0, 1, 0, 1, 0, 0, 1, 1, 1]) ⟨[(1, .ref 1 0), (3, .pv (.int .i64) v2), (8, .pv (.int .i64) v19.1), (9, .pv .bool v20), (133, .pv (.list (.list (.int .i64))) v1.endss), (134, .pv (.int .i64) (v1.endss.length : Int)), (135, .pv (.int .i64) v17)], [(1, .box [.pv (.int .i64) v1.kind, .pv (.int .i64) v1.layout, .pv (.int .i64) v1.srid, .pv (.list .float) v1.flat, .pv (.list (.int .i64)) v1.ends, .pv (.list (.list (.int .i64))) v1.endss, .pv (.list .geo) v1.kids])], []⟩ (kSeq (advOf (spec_Good_E N d) (codeAt (bodyOf Try.f44) [1, 1, 1, 1, 0, 1, 0, 1, 1, 1, 1, 1, 1, 1, 0, 1, 0, 1, 0, 0])) (fun st K => loopN (advOf (spec_Good_E N d) (codeAt (bodyOf Try.f44) [1, 1, 1, 1, 0, 1, 0, 1, 1, 1, 1, 1, 1, 1, 0, 1, 0, 1, 0, 0])) (evC (spec_Good_E N d) (codeAt (bodyOf Try.f44) [1, 1, 1, 1, 0, 1, 0, 1, 1, 1, 1, 1, 1, 1, 0, 1, 0, 1, 0, 0])) m6 st K) (kBlock 3 (kSeq (advOf (spec_Good_E N d) (codeAt (bodyOf Try.f44) [1, 1, 1, 1, 0, 1, 0, 1, 1, 1, 1, 1, 1, 1, 0, 1, 1])) (evC (spec_Good_E N d) (codeAt (bodyOf Try.f44) [1, 1, 1, 1, 0, 1, 0, 1, 1, 1, 1, 1, 1, 1, 0, 1, 1])) (kBlock 2 (kSeq (advOf (spec_Good_E N d) (codeAt (bodyOf Try.f44) [1, 1, 1, 1, 1])) (evC (spec_Good_E N d) (codeAt (bodyOf Try.f44) [1, 1, 1, 1, 1])) (kEnd (spec_Good_E N d) [] Try.f44.results.toList [.bool])))))) = spec_Good_g7 N (spec_Good N d) v2 v1 v19 v17 (spec_Good_e6 N d m6 v2 v1) v20 from by kernel_rfl)).trans (by rfl)
theorem spec_Good_t6 (N : Nat) (d : Nat) : ∀ (n : Nat) (v2 : Int) (v1 : Geo) (v15 : Int) (v16 : Bool) (v17 : Int), spec_Good_e6 N d n v2 v1 v15 v16 v17 = spec_Good_l6 N (spec_Good N d) n v2 v1 v15 v16 v17
  | 0, _, _, _, _, _ => rfl
  | n + 1, v2, v1, v15, v16, v17 => by
    have h7 : (spec_Good_e7 N d n v2 v1) = (spec_Good_j7 N (spec_Good N d) (spec_Good_e6 N d n v2 v1) v2 v1) := by funext v19 v17 v20; exact spec_Good_t7 N d n v2 v1 v19 v17 v20
    have h : spec_Good_e6 N d n v2 v1 = spec_Good_l6 N (spec_Good N d) n v2 v1 := by funext v15 v16 v17; exact spec_Good_t6 N d n v2 v1 v15 v16 v17
    exact (show spec_Good_e6 N d (n + 1) v2 v1 v15 v16 v17 = spec_Good_g6 N (spec_Good N d) v2 v1 (spec_Good_e7 N d n v2 v1) (spec_Good_e6 N d n v2 v1) v15 v16 v17 from by kernel_rfl).trans (by rw [h7, h]; rfl)
theorem spec_Good_t5 (N : Nat) (d : Nat) (v2 : Int) (v1 : Geo) (v11 : Bool) : spec_Good_e5 N d v2 v1 v11 = spec_Good_j5 N (spec_Good N d) v2 v1 v11 := by
  have h6 : (spec_Good_e6 N d N) = (spec_Good_l6 N (spec_Good N d) N) := by funext v2 v1 v15 v16 v17; exact spec_Good_t6 N d N v2 v1 v15 v16 v17
  exact (congrArg (gate N) (show evC (spec_Good_E N d) (codeAt (bodyOf Try.f44) [1, 1, 1, 1, 0, 1, 0, 1, 1, 1, 1, 1]) ⟨[(1, .ref 1 0), (3, .pv (.int .i64) v2), (87, .pv (.int .i64) v1.kind), (108, .pv .bool v11)], [(1, .box [.pv (.int .i64) v1.kind, .pv (.int .i64) v1.layout, .pv (.int .i64) v1.srid, .pv (.list .float) v1.flat, .pv (.list (.int .i64)) v1.ends, .pv (.list (.list (.int .i64))) v1.endss, .pv (.list .geo) v1.kids])], []⟩ (kBlock 2 (kSeq (advOf (spec_Good_E N d) (codeAt (bodyOf Try.f44) [1, 1, 1, 1, 1])) (evC (spec_Good_E N d) (codeAt (bodyOf Try.f44) [1, 1, 1, 1, 1])) (kEnd (spec_Good_E N d) [] Try.f44.results.toList [.bool]))) = spec_Good_g5 N (spec_Good N d) v2 v1 (spec_Good_e6 N d N) v11 from by kernel_rfl)).trans (by rw [h6]; rfl)
theorem spec_Good_t4 (N : Nat) (d : Nat) (v2 : Int) (v1 : Geo) (v10 : Bool) : spec_Good_e4 N d v2 v1 v10 = spec_Good_j4 N (spec_Good N d) v2 v1 v10 := by
  have h5 : (spec_Good_e5 N d) = (spec_Good_j5 N (spec_Good N d)) := by funext v2 v1 v11; exact spec_Good_t5 N d v2 v1 v11
  exact (congrArg (gate N) (show evC (spec_Good_E N d) (codeAt (bodyOf Try.f44) [1, 1, 1, 1, 0, 1, 0, 1, 1, 1]) ⟨[(1, .ref 1 0), (3, .pv (.int .i64) v2), (87, .pv (.int .i64) v1.kind), (101, .pv .bool v10)], [(1, .box [.pv (.int .i64) v1.kind, .pv (.int .i64) v1.layout, .pv (.int .i64) v1.srid, .pv (.list .float) v1.flat, .pv (.list (.int .i64)) v1.ends, .pv (.list (.list (.int .i64))) v1.endss, .pv (.list .geo) v1.kids])], []⟩ (kBlock 2 (kSeq (advOf (spec_Good_E N d) (codeAt (bodyOf Try.f44) [1, 1, 1, 1, 1])) (evC (spec_Good_E N d) (codeAt (bodyOf Try.f44) [1, 1, 1, 1, 1])) (kEnd (spec_Good_E N d) [] Try.f44.results.toList [.bool]))) = spec_Good_g4 N (spec_Good N d) v2 v1 (spec_Good_e5 N d) v10 from by kernel_rfl)).trans (by rw [h5]; rfl)
theorem spec_Good_t3 (N : Nat) (d : Nat) (v2 : Int) (v1 : Geo) : spec_Good_e3 N d v2 v1 = spec_Good_j3 N (spec_Good N d) v2 v1 := by
  have h4 : (spec_Good_e4 N d) = (spec_Good_j4 N (spec_Good N d)) := by funext v2 v1 v10; exact spec_Good_t4 N d v2 v1 v10
  exact (congrArg (gate N) (show evC (spec_Good_E N d) (codeAt (bodyOf Try.f44) [1, 1, 1, 1]) ⟨[(1, .ref 1 0), (3, .pv (.int .i64) v2)], [(1, .box [.pv (.int .i64) v1.kind, .pv (.int .i64) v1.layout, .pv (.int .i64) v1.srid, .pv (.list .float) v1.flat, .pv (.list (.int .i64)) v1.ends, .pv (.list (.list (.int .i64))) v1.endss, .pv (.list .geo) v1.kids])], []⟩ (kEnd (spec_Good_E N d) [] Try.f44.results.toList [.bool]) = spec_Good_g3 N (spec_Good N d) v2 v1 (spec_Good_e4 N d) from by kernel_rfl)).trans (by rw [h4]; rfl)
theorem spec_Good_t (N : Nat) (d : Nat) (v1 : Geo) : evF (spec_Good_E N d) [] Try.f44 [.k .geo] [.bool] (v1, ()) = spec_Good N (d + 1) v1 := by
  have h0 : (spec_Good_e0 N d N) = (spec_Good_l0 N (spec_Good N d) N) := by funext v1 v6; exact spec_Good_t0 N d N v1 v6
  have h2 : (spec_Good_e2 N d) = (spec_Good_j2 N (spec_Good N d)) := by funext v2 v1; exact spec_Good_t2 N d v2 v1
  have h3 : (spec_Good_e3 N d) = (spec_Good_j3 N (spec_Good N d)) := by funext v2 v1; exact spec_Good_t3 N d v2 v1
  exact (show evF (spec_Good_E N d) [] Try.f44 [.k .geo] [.bool] (v1, ()) = spec_Good_g N (spec_Good N d) v1 (spec_Good_e0 N d N) (spec_Good_e2 N d) (spec_Good_e3 N d) from by kernel_rfl).trans (by rw [h0, h2, h3]; rfl)
theorem spec_Good_s' (N : Nat) : ∀ d, (spec_Good_con' N d).Sound Try.prog []
  | 0 => fun _ _ _ _ _ _ _ _ h => by cases h
  | d + 1 => Con.sound_of (c := spec_Good_con' N (d + 1)) (E := (spec_Good_E N d)) (idle := []) Try.func44 (by kernel_rfl) (by kernel_rfl) ⟨(allCons (spec_Good_s' N d) (allCons (spec_Stride_s N) (allCons (spec_LayoutOf_s N) (allCons (spec_goodEnds_s N) allNil)))), allNil, rfl⟩ allNil (fun x y h => (spec_Good_t N d x.1).trans h)
noncomputable def spec_Good_con (N : Nat) : Con := spec_Good_con' N N
theorem spec_Good_s (N : Nat) : (spec_Good_con N).Sound Try.prog [] := spec_Good_s' N N
/-- pub-orthodrome/laws.gGood -/
noncomputable def laws_gGood_E (N : Nat) : Env := ⟨Try.prog, N, [laws_gSmall_con N, spec_Good_con N], [(0, ⟨[], [], [], [], [], [0], [], none⟩), (1, ⟨[], [], [], [], [], [0], [], none⟩), (2, ⟨[], [], [], [], [], [0, 7], [], none⟩), (3, ⟨[], [], [], [], [], [0], [], none⟩), (4, ⟨[], [], [], [], [], [8, 9, 10], [], none⟩), (5, ⟨[], [], [], [], [], [8, 9, 10], [], none⟩), (6, ⟨[], [], [], [], [], [4, 8, 9, 10], [4], none⟩), (7, ⟨[], [], [], [], [], [8, 9, 10, 16], [], none⟩), (8, ⟨[], [], [], [], [], [8, 9, 10], [], none⟩), (9, ⟨[], [], [], [], [], [], [], none⟩)], kdL [], [], [], []⟩
def laws_gGood_g0 (N : Nat) (v1 : (List Geo)) (r0 : Int → Option (Bool)) (v5 : Int) : Option (Bool) :=
  (bif (decide ((v5 : Int) < (v1.length : Int))) then ((nth v1 v5).bind fun v6 => ((spec_Good N N (Geo.mk v6.kind v6.layout v6.srid v6.flat v6.ends v6.endss v6.kids)).bind fun v7 => (bif (!v7) then (some false) else ((r0 (IntKind.i64.wrap (v5 + 1))))))) else (some true))
def laws_gGood_l0 (N : Nat) : Nat → (List Geo) → Int → Option (Bool)
  | 0, _, _ => none
  | n + 1, v1, v5 => laws_gGood_g0 N v1 (laws_gGood_l0 N n v1) v5
def laws_gGood_g (N : Nat) (v1 : (List Geo)) (c0 : (List Geo) → Int → Option (Bool)) : Option (Bool) :=
  ((laws_gSmall N v1).bind fun v2 => (bif (!v2) then (some false) else ((c0 v1 0))))
def laws_gGood (N : Nat) (v1 : (List Geo)) : Option (Bool) :=
  laws_gGood_g N v1 (laws_gGood_l0 N N)
set_option maxRecDepth 100000
noncomputable def laws_gGood_e0 (N : Nat) (n : Nat) (v1 : (List Geo)) (v5 : Int) : Option (HR [.bool]) :=
  loopN (advOf (laws_gGood_E N) (codeAt (bodyOf Try.f20) [1, 1, 0, 1, 0, 0])) (evC (laws_gGood_E N) (codeAt (bodyOf Try.f20) [1, 1, 0, 1, 0, 0])) n ⟨[(8, .pv (.list .geo) v1), (9, .pv (.int .i64) (v1.length : Int)), (10, .pv (.int .i64) v5)], [], []⟩ (kBlock 0 (kSeq (advOf (laws_gGood_E N) (codeAt (bodyOf Try.f20) [1, 1, 1])) (evC (laws_gGood_E N) (codeAt (bodyOf Try.f20) [1, 1, 1])) (kEnd (laws_gGood_E N) [] Try.f20.results.toList [.bool])))
theorem laws_gGood_t0 (N : Nat) : ∀ (n : Nat) (v1 : (List Geo)) (v5 : Int), laws_gGood_e0 N n v1 v5 = laws_gGood_l0 N n v1 v5
  | 0, _, _ => rfl
  | n + 1, v1, v5 => by
    have h : laws_gGood_e0 N n v1 = laws_gGood_l0 N n v1 := by funext v5; exact laws_gGood_t0 N n v1 v5
    exact (show laws_gGood_e0 N (n + 1) v1 v5 = laws_gGood_g0 N v1 (laws_gGood_e0 N n v1) v5 from by kernel_rfl).trans (by rw [h]; rfl)
theorem laws_gGood_t (N : Nat) (v1 : (List Geo)) : evF (laws_gGood_E N) [] Try.f20 [.k (.list .geo)] [.bool] (v1, ()) = laws_gGood N v1 := by
  have h0 : (laws_gGood_e0 N N) = (laws_gGood_l0 N N) := by funext v1 v5; exact laws_gGood_t0 N N v1 v5
  exact (show evF (laws_gGood_E N) [] Try.f20 [.k (.list .geo)] [.bool] (v1, ()) = laws_gGood_g N v1 (laws_gGood_e0 N N) from by kernel_rfl).trans (by rw [h0]; rfl)
noncomputable def laws_gGood_con (N : Nat) : Con := ⟨20, [.k (.list .geo)], [.bool], fun x => laws_gGood N x.1⟩
theorem laws_gGood_s (N : Nat) : (laws_gGood_con N).Sound Try.prog [] :=
  Con.sound_of (c := laws_gGood_con N) (E := (laws_gGood_E N)) (idle := []) Try.func20 (by kernel_rfl) (by kernel_rfl) ⟨(allCons (laws_gSmall_s N) (allCons (spec_Good_s N) allNil)), allNil, rfl⟩ allNil (fun x y h => (laws_gGood_t N x.1).trans h)
/-- pub-orthodrome/laws.gPlain -/
noncomputable def laws_gPlain_E (N : Nat) : Env := ⟨Try.prog, N, [laws_gGood_con N], [(0, ⟨[], [], [], [], [], [0], [], none⟩), (1, ⟨[], [], [], [], [], [1], [1], none⟩)], kdL [(29, .geo)], [], [], []⟩
def laws_gPlain_g (N : Nat) (v1 : Geo) : Option (Bool) :=
  ((laws_gGood N ([(Geo.mk v1.kind v1.layout v1.srid v1.flat v1.ends v1.endss v1.kids)] : List Geo)).bind fun v2 => bif v2 then (some (v1.kind != 7)) else (some false))
def laws_gPlain (N : Nat) (v1 : Geo) : Option (Bool) :=
  laws_gPlain_g N v1
set_option maxRecDepth 100000
theorem laws_gPlain_t (N : Nat) (v1 : Geo) : evF (laws_gPlain_E N) [] Try.f14 [.k .geo] [.bool] (v1, ()) = laws_gPlain N v1 := by
  exact (show evF (laws_gPlain_E N) [] Try.f14 [.k .geo] [.bool] (v1, ()) = laws_gPlain_g N v1 from by kernel_rfl).trans (by rfl)
noncomputable def laws_gPlain_con (N : Nat) : Con := ⟨14, [.k .geo], [.bool], fun x => laws_gPlain N x.1⟩
theorem laws_gPlain_s (N : Nat) : (laws_gPlain_con N).Sound Try.prog [] :=
  Con.sound_of (c := laws_gPlain_con N) (E := (laws_gPlain_E N)) (idle := []) Try.func14 (by kernel_rfl) (by kernel_rfl) ⟨(allCons (laws_gGood_s N) allNil), allNil, rfl⟩ allNil (fun x y h => (laws_gPlain_t N x.1).trans h)
/-- math.archTrunc -/
def math_archTrunc (N : Nat) (v1 : Nat) : Option ((Nat × Unit) ⊕ (Unit × Unit)) := some (fwholeN .zero v1)
noncomputable def math_archTrunc_con (N : Nat) : Con2 := ⟨84, [.k .float], [⟨[.k .float], [none]⟩, ⟨[.nan], [none]⟩], fun x => math_archTrunc N x.1⟩
theorem math_archTrunc_s (N : Nat) : (math_archTrunc_con N).Sound Try.prog [] := wholeN_of (name := "math.archTrunc") Try.func84 (by kernel_rfl) (by kernel_rfl) (by kernel_rfl) (by kernel_rfl)
/-- math.Trunc -/
noncomputable def math_Trunc_E (N : Nat) : Env := ⟨Try.prog, N, [], [(0, ⟨[], [], [], [], [], [0], [], none⟩), (1, ⟨[], [], [], [], [], [0], [], none⟩), (2, ⟨[], [], [], [], [], [0], [], none⟩)], kdL [], [math_archTrunc_con N], [], []⟩
def math_Trunc_g (N : Nat) (v1 : Nat) : Option ((Nat × Unit) ⊕ (Unit × Unit)) :=
  ((math_archTrunc N v1).bind fun v2 => Sum.elim (fun v3 => (some (Sum.inl (v3.1, ())))) (fun v4 => (some (Sum.inr ((), ())))) v2)
def math_Trunc (N : Nat) (v1 : Nat) : Option ((Nat × Unit) ⊕ (Unit × Unit)) :=
  math_Trunc_g N v1
set_option maxRecDepth 100000
theorem math_Trunc_t (N : Nat) (v1 : Nat) : evF2 (math_Trunc_E N) [] Try.f37 [.k .float] [⟨[.k .float], [none]⟩, ⟨[.nan], [none]⟩] (v1, ()) = math_Trunc N v1 := by
  exact (show evF2 (math_Trunc_E N) [] Try.f37 [.k .float] [⟨[.k .float], [none]⟩, ⟨[.nan], [none]⟩] (v1, ()) = math_Trunc_g N v1 from by kernel_rfl).trans (by rfl)
noncomputable def math_Trunc_con (N : Nat) : Con2 := ⟨37, [.k .float], [⟨[.k .float], [none]⟩, ⟨[.nan], [none]⟩], fun x => math_Trunc N x.1⟩
theorem math_Trunc_s (N : Nat) : (math_Trunc_con N).Sound Try.prog [] :=
  Con2.sound_of (c := math_Trunc_con N) (E := (math_Trunc_E N)) (idle := []) Try.func37 (by kernel_rfl) (by kernel_rfl) ⟨allNil, (allCons (math_archTrunc_s N) allNil), rfl⟩ allNil (fun x y h => (math_Trunc_t N x.1).trans h)
/-- pub-orthodrome/laws.gWhole -/
noncomputable def laws_gWhole_E (N : Nat) : Env := ⟨Try.prog, N, [], [(0, ⟨[], [], [], [], [], [0], [], none⟩), (1, ⟨[], [], [], [], [], [0], [], none⟩)], kdL [], [math_Trunc_con N], [], []⟩
def laws_gWhole_g (N : Nat) (v1 : Nat) : Option (Bool) :=
  (bif (fge v1 13920626448202203136) then (bif (fle v1 4697254411347427328) then ((math_Trunc N v1).bind fun v2 => Sum.elim (fun v3 => (some (feq v1 v3.1))) (fun v4 => (some false)) v2) else (some false)) else (some false))
def laws_gWhole (N : Nat) (v1 : Nat) : Option (Bool) :=
  laws_gWhole_g N v1
set_option maxRecDepth 100000
theorem laws_gWhole_t (N : Nat) (v1 : Nat) : evF (laws_gWhole_E N) [] Try.f16 [.k .float] [.bool] (v1, ()) = laws_gWhole N v1 := by
  exact (show evF (laws_gWhole_E N) [] Try.f16 [.k .float] [.bool] (v1, ()) = laws_gWhole_g N v1 from by kernel_rfl).trans (by rfl)
noncomputable def laws_gWhole_con (N : Nat) : Con := ⟨16, [.k .float], [.bool], fun x => laws_gWhole N x.1⟩
theorem laws_gWhole_s (N : Nat) : (laws_gWhole_con N).Sound Try.prog [] :=
  Con.sound_of (c := laws_gWhole_con N) (E := (laws_gWhole_E N)) (idle := []) Try.func16 (by kernel_rfl) (by kernel_rfl) ⟨allNil, (allCons (math_Trunc_s N) allNil), rfl⟩ allNil (fun x y h => (laws_gWhole_t N x.1).trans h)
/-- pub-orthodrome/laws.gEach -/
def laws_gEach_g1 (N : Nat) (self : Geo → Option (Bool)) (v1 : Geo) (r1 : Int → Option (Bool)) (v9 : Int) : Option (Bool) :=
  (bif (decide ((v9 : Int) < (v1.kids.length : Int))) then ((nth v1.kids v9).bind fun v10 => ((self (Geo.mk v10.kind v10.layout v10.srid v10.flat v10.ends v10.endss v10.kids)).bind fun v11 => (bif (!v11) then (some false) else ((r1 (IntKind.i64.wrap (v9 + 1))))))) else (some true))
def laws_gEach_l1 (N : Nat) (self : Geo → Option (Bool)) : Nat → Geo → Int → Option (Bool)
  | 0, _, _ => none
  | n + 1, v1, v9 => laws_gEach_g1 N self v1 (laws_gEach_l1 N self n v1) v9
def laws_gEach_g0 (N : Nat) (self : Geo → Option (Bool)) (v1 : Geo) (c1 : Geo → Int → Option (Bool)) (r0 : Int → Option (Bool)) (v4 : Int) : Option (Bool) :=
  (bif (decide ((v4 : Int) < (v1.flat.length : Int))) then ((nth v1.flat v4).bind fun v5 => ((laws_gWhole N v5).bind fun v6 => (bif (!v6) then (some false) else ((r0 (IntKind.i64.wrap (v4 + 1))))))) else ((c1 v1 0)))
def laws_gEach_l0 (N : Nat) (self : Geo → Option (Bool)) : Nat → Geo → Int → Option (Bool)
  | 0, _, _ => none
  | n + 1, v1, v4 => laws_gEach_g0 N self v1 (laws_gEach_l1 N self N) (laws_gEach_l0 N self n v1) v4
def laws_gEach_g (N : Nat) (self : Geo → Option (Bool)) (v1 : Geo) (c0 : Geo → Int → Option (Bool)) : Option (Bool) :=
  ((c0 v1 0))
def laws_gEach (N : Nat) : Nat → Geo → Option (Bool)
  | 0, _ => none
  | d + 1, v1 => laws_gEach_g N (laws_gEach N d) v1 (laws_gEach_l0 N (laws_gEach N d) N)
noncomputable def laws_gEach_con' (N : Nat) (d : Nat) : Con := ⟨15, [.k .geo, .fn 16], [.bool], fun x => laws_gEach N d x.1⟩
noncomputable def laws_gEach_E (N : Nat) (d : Nat) : Env := ⟨Try.prog, N, [laws_gEach_con' N d, laws_gWhole_con N], [(0, ⟨[], [], [], [], [], [0, 1], [], none⟩), (1, ⟨[], [], [], [], [], [1, 2], [2], none⟩), (2, ⟨[], [], [], [], [], [1, 2, 10, 11, 12], [2], none⟩), (3, ⟨[], [], [], [], [], [1, 2, 10, 11, 12], [2], none⟩), (4, ⟨[], [], [], [], [], [1, 2, 6, 10, 11, 12], [2], none⟩), (5, ⟨[], [], [], [], [], [1, 2, 10, 11, 12, 19], [2], none⟩), (6, ⟨[], [], [], [], [], [1, 2, 10, 11, 12], [2], none⟩), (7, ⟨[], [], [], [], [], [1, 2], [2], none⟩), (8, ⟨[], [], [], [], [], [1, 22, 23, 24], [], none⟩), (9, ⟨[], [], [], [], [], [1, 22, 23, 24], [], none⟩), (10, ⟨[], [], [], [], [], [1, 8, 22, 23, 24], [8], none⟩), (11, ⟨[], [], [], [], [], [1, 22, 23, 24, 31], [], none⟩), (12, ⟨[], [], [], [], [], [1, 22, 23, 24], [], none⟩), (13, ⟨[], [], [], [], [], [], [], none⟩)], kdL [], [], [], []⟩
set_option maxRecDepth 100000
noncomputable def laws_gEach_e1 (N : Nat) (d : Nat) (n : Nat) (v1 : Geo) (v9 : Int) : Option (HR [.bool]) :=
  loopN (advOf (laws_gEach_E N d) (codeAt (bodyOf Try.f15) [1, 1, 0, 1, 0, 0])) (evC (laws_gEach_E N d) (codeAt (bodyOf Try.f15) [1, 1, 0, 1, 0, 0])) n ⟨[(1, .func 16 []), (22, .pv (.list .geo) v1.kids), (23, .pv (.int .i64) (v1.kids.length : Int)), (24, .pv (.int .i64) v9)], [], []⟩ (kBlock 2 (kSeq (advOf (laws_gEach_E N d) (codeAt (bodyOf Try.f15) [1, 1, 1])) (evC (laws_gEach_E N d) (codeAt (bodyOf Try.f15) [1, 1, 1])) (kEnd (laws_gEach_E N d) [] Try.f15.results.toList [.bool])))
noncomputable def laws_gEach_e0 (N : Nat) (d : Nat) (n : Nat) (v1 : Geo) (v4 : Int) : Option (HR [.bool]) :=
  loopN (advOf (laws_gEach_E N d) (codeAt (bodyOf Try.f15) [1, 0, 1, 0, 0])) (evC (laws_gEach_E N d) (codeAt (bodyOf Try.f15) [1, 0, 1, 0, 0])) n ⟨[(1, .func 16 []), (2, .ref 2 0), (10, .pv (.list .float) v1.flat), (11, .pv (.int .i64) (v1.flat.length : Int)), (12, .pv (.int .i64) v4)], [(2, .box [.pv (.int .i64) v1.kind, .pv (.int .i64) v1.layout, .pv (.int .i64) v1.srid, .pv (.list .float) v1.flat, .pv (.list (.int .i64)) v1.ends, .pv (.list (.list (.int .i64))) v1.endss, .pv (.list .geo) v1.kids])], []⟩ (kBlock 0 (kSeq (advOf (laws_gEach_E N d) (codeAt (bodyOf Try.f15) [1, 1])) (evC (laws_gEach_E N d) (codeAt (bodyOf Try.f15) [1, 1])) (kEnd (laws_gEach_E N d) [] Try.f15.results.toList [.bool])))
theorem laws_gEach_t1 (N : Nat) (d : Nat) : ∀ (n : Nat) (v1 : Geo) (v9 : Int), laws_gEach_e1 N d n v1 v9 = laws_gEach_l1 N (laws_gEach N d) n v1 v9
  | 0, _, _ => rfl
  | n + 1, v1, v9 => by
    have h : laws_gEach_e1 N d n v1 = laws_gEach_l1 N (laws_gEach N d) n v1 := by funext v9; exact laws_gEach_t1 N d n v1 v9
    exact (show laws_gEach_e1 N d (n + 1) v1 v9 = laws_gEach_g1 N (laws_gEach N d) v1 (laws_gEach_e1 N d n v1) v9 from by kernel_rfl).trans (by rw [h]; rfl)
theorem laws_gEach_t0 (N : Nat) (d : Nat) : ∀ (n : Nat) (v1 : Geo) (v4 : Int), laws_gEach_e0 N d n v1 v4 = laws_gEach_l0 N (laws_gEach N d) n v1 v4
  | 0, _, _ => rfl
  | n + 1, v1, v4 => by
    have h1 : (laws_gEach_e1 N d N) = (laws_gEach_l1 N (laws_gEach N d) N) := by funext v1 v9; exact laws_gEach_t1 N d N v1 v9
    have h : laws_gEach_e0 N d n v1 = laws_gEach_l0 N (laws_gEach N d) n v1 := by funext v4; exact laws_gEach_t0 N d n v1 v4
    exact (show laws_gEach_e0 N d (n + 1) v1 v4 = laws_gEach_g0 N (laws_gEach N d) v1 (laws_gEach_e1 N d N) (laws_gEach_e0 N d n v1) v4 from by kernel_rfl).trans (by rw [h1, h]; rfl)
theorem laws_gEach_t (N : Nat) (d : Nat) (v1 : Geo) : evF (laws_gEach_E N d) [] Try.f15 [.k .geo, .fn 16] [.bool] (v1, ()) = laws_gEach N (d + 1) v1 := by
  have h0 : (laws_gEach_e0 N d N) = (laws_gEach_l0 N (laws_gEach N d) N) := by funext v1 v4; exact laws_gEach_t0 N d N v1 v4
  exact (show evF (laws_gEach_E N d) [] Try.f15 [.k .geo, .fn 16] [.bool] (v1, ()) = laws_gEach_g N (laws_gEach N d) v1 (laws_gEach_e0 N d N) from by kernel_rfl).trans (by rw [h0]; rfl)
theorem laws_gEach_s' (N : Nat) : ∀ d, (laws_gEach_con' N d).Sound Try.prog []
  | 0 => fun _ _ _ _ _ _ _ _ h => by cases h
  | d + 1 => Con.sound_of (c := laws_gEach_con' N (d + 1)) (E := (laws_gEach_E N d)) (idle := []) Try.func15 (by kernel_rfl) (by kernel_rfl) ⟨(allCons (laws_gEach_s' N d) (allCons (laws_gWhole_s N) allNil)), allNil, rfl⟩ allNil (fun x y h => (laws_gEach_t N d x.1).trans h)
noncomputable def laws_gEach_con (N : Nat) : Con := laws_gEach_con' N N
theorem laws_gEach_s (N : Nat) : (laws_gEach_con N).Sound Try.prog [] := laws_gEach_s' N N
/-- pub-orthodrome/laws.gInts -/
noncomputable def laws_gInts_E (N : Nat) : Env := ⟨Try.prog, N, [], [(0, ⟨[], [], [], [], [], [0, 1], [], none⟩), (1, ⟨[], [], [], [], [], [0, 1], [], none⟩), (2, ⟨[], [], [], [], [], [0, 1, 11], [], none⟩), (3, ⟨[], [], [], [], [], [0, 1], [], none⟩), (4, ⟨[], [], [], [], [], [1, 12, 13, 14], [], none⟩), (5, ⟨[], [], [], [], [], [1, 12, 13, 14], [], none⟩), (6, ⟨[], [], [], [], [], [1, 5, 6, 12, 13, 14], [], none⟩), (7, ⟨[], [], [], [], [], [1, 12, 13, 14, 24], [], none⟩), (8, ⟨[], [], [], [], [], [1, 12, 13, 14], [], none⟩), (9, ⟨[], [], [], [], [], [], [], none⟩)], kdL [], [], [], []⟩
def laws_gInts_g0 (N : Nat) (v2 : (List Int)) (v1 : (List Int)) (r0 : Int → Option (Bool)) (v5 : Int) : Option (Bool) :=
  (bif (decide ((v5 : Int) < (v1.length : Int))) then ((nth v1 v5).bind fun v6 => ((nth v2 v5).bind fun v7 => (bif (v6 != v7) then (some false) else ((r0 (IntKind.i64.wrap (v5 + 1))))))) else (some true))
def laws_gInts_l0 (N : Nat) : Nat → (List Int) → (List Int) → Int → Option (Bool)
  | 0, _, _, _ => none
  | n + 1, v2, v1, v5 => laws_gInts_g0 N v2 v1 (laws_gInts_l0 N n v2 v1) v5
def laws_gInts_g (N : Nat) (v1 : (List Int)) (v2 : (List Int)) (c0 : (List Int) → (List Int) → Int → Option (Bool)) : Option (Bool) :=
  (bif ((v1.length : Int) != (v2.length : Int)) then (some false) else ((c0 v2 v1 0)))
def laws_gInts (N : Nat) (v1 : (List Int)) (v2 : (List Int)) : Option (Bool) :=
  laws_gInts_g N v1 v2 (laws_gInts_l0 N N)
set_option maxRecDepth 100000
noncomputable def laws_gInts_e0 (N : Nat) (n : Nat) (v2 : (List Int)) (v1 : (List Int)) (v5 : Int) : Option (HR [.bool]) :=
  loopN (advOf (laws_gInts_E N) (codeAt (bodyOf Try.f42) [1, 1, 0, 1, 0, 0])) (evC (laws_gInts_E N) (codeAt (bodyOf Try.f42) [1, 1, 0, 1, 0, 0])) n ⟨[(1, .pv (.list (.int .i64)) v2), (12, .pv (.list (.int .i64)) v1), (13, .pv (.int .i64) (v1.length : Int)), (14, .pv (.int .i64) v5)], [], []⟩ (kBlock 0 (kSeq (advOf (laws_gInts_E N) (codeAt (bodyOf Try.f42) [1, 1, 1])) (evC (laws_gInts_E N) (codeAt (bodyOf Try.f42) [1, 1, 1])) (kEnd (laws_gInts_E N) [] Try.f42.results.toList [.bool])))
theorem laws_gInts_t0 (N : Nat) : ∀ (n : Nat) (v2 : (List Int)) (v1 : (List Int)) (v5 : Int), laws_gInts_e0 N n v2 v1 v5 = laws_gInts_l0 N n v2 v1 v5
  | 0, _, _, _ => rfl
  | n + 1, v2, v1, v5 => by
    have h : laws_gInts_e0 N n v2 v1 = laws_gInts_l0 N n v2 v1 := by funext v5; exact laws_gInts_t0 N n v2 v1 v5
    exact (show laws_gInts_e0 N (n + 1) v2 v1 v5 = laws_gInts_g0 N v2 v1 (laws_gInts_e0 N n v2 v1) v5 from by kernel_rfl).trans (by rw [h]; rfl)
theorem laws_gInts_t (N : Nat) (v1 : (List Int)) (v2 : (List Int)) : evF (laws_gInts_E N) [] Try.f42 [.k (.list (.int .i64)), .k (.list (.int .i64))] [.bool] (v1, v2, ()) = laws_gInts N v1 v2 := by
  have h0 : (laws_gInts_e0 N N) = (laws_gInts_l0 N N) := by funext v2 v1 v5; exact laws_gInts_t0 N N v2 v1 v5
  exact (show evF (laws_gInts_E N) [] Try.f42 [.k (.list (.int .i64)), .k (.list (.int .i64))] [.bool] (v1, v2, ()) = laws_gInts_g N v1 v2 (laws_gInts_e0 N N) from by kernel_rfl).trans (by rw [h0]; rfl)
noncomputable def laws_gInts_con (N : Nat) : Con := ⟨42, [.k (.list (.int .i64)), .k (.list (.int .i64))], [.bool], fun x => laws_gInts N x.1 x.2.1⟩
theorem laws_gInts_s (N : Nat) : (laws_gInts_con N).Sound Try.prog [] :=
  Con.sound_of (c := laws_gInts_con N) (E := (laws_gInts_E N)) (idle := []) Try.func42 (by kernel_rfl) (by kernel_rfl) ⟨allNil, allNil, rfl⟩ allNil (fun x y h => (laws_gInts_t N x.1 x.2.1).trans h)
/-- pub-orthodrome/laws.gIntss -/
noncomputable def laws_gIntss_E (N : Nat) : Env := ⟨Try.prog, N, [laws_gInts_con N], [(0, ⟨[], [], [], [], [], [0, 1], [], none⟩), (1, ⟨[], [], [], [], [], [0, 1], [], none⟩), (2, ⟨[], [], [], [], [], [0, 1, 11], [], none⟩), (3, ⟨[], [], [], [], [], [0, 1], [], none⟩), (4, ⟨[], [], [], [], [], [1, 12, 13, 14], [], none⟩), (5, ⟨[], [], [], [], [], [1, 12, 13, 14], [], none⟩), (6, ⟨[], [], [], [], [], [1, 5, 6, 12, 13, 14], [], none⟩), (7, ⟨[], [], [], [], [], [1, 12, 13, 14, 25], [], none⟩), (8, ⟨[], [], [], [], [], [1, 12, 13, 14], [], none⟩), (9, ⟨[], [], [], [], [], [], [], none⟩)], kdL [], [], [], []⟩
def laws_gIntss_g0 (N : Nat) (v2 : (List (List Int))) (v1 : (List (List Int))) (r0 : Int → Option (Bool)) (v6 : Int) : Option (Bool) :=
  (bif (decide ((v6 : Int) < (v1.length : Int))) then ((nth v1 v6).bind fun v7 => ((nth v2 v6).bind fun v8 => (laws_gInts N v7 v8).bind fun v9 => (bif (!v9) then (some false) else ((r0 (IntKind.i64.wrap (v6 + 1))))))) else (some true))
def laws_gIntss_l0 (N : Nat) : Nat → (List (List Int)) → (List (List Int)) → Int → Option (Bool)
  | 0, _, _, _ => none
  | n + 1, v2, v1, v6 => laws_gIntss_g0 N v2 v1 (laws_gIntss_l0 N n v2 v1) v6
def laws_gIntss_g (N : Nat) (v1 : (List (List Int))) (v2 : (List (List Int))) (c0 : (List (List Int)) → (List (List Int)) → Int → Option (Bool)) : Option (Bool) :=
  (bif ((v1.length : Int) != (v2.length : Int)) then (some false) else ((c0 v2 v1 0)))
def laws_gIntss (N : Nat) (v1 : (List (List Int))) (v2 : (List (List Int))) : Option (Bool) :=
  laws_gIntss_g N v1 v2 (laws_gIntss_l0 N N)
set_option maxRecDepth 100000
noncomputable def laws_gIntss_e0 (N : Nat) (n : Nat) (v2 : (List (List Int))) (v1 : (List (List Int))) (v6 : Int) : Option (HR [.bool]) :=
  loopN (advOf (laws_gIntss_E N) (codeAt (bodyOf Try.f43) [1, 1, 0, 1, 0, 0])) (evC (laws_gIntss_E N) (codeAt (bodyOf Try.f43) [1, 1, 0, 1, 0, 0])) n ⟨[(1, .pv (.list (.list (.int .i64))) v2), (12, .pv (.list (.list (.int .i64))) v1), (13, .pv (.int .i64) (v1.length : Int)), (14, .pv (.int .i64) v6)], [], []⟩ (kBlock 0 (kSeq (advOf (laws_gIntss_E N) (codeAt (bodyOf Try.f43) [1, 1, 1])) (evC (laws_gIntss_E N) (codeAt (bodyOf Try.f43) [1, 1, 1])) (kEnd (laws_gIntss_E N) [] Try.f43.results.toList [.bool])))
theorem laws_gIntss_t0 (N : Nat) : ∀ (n : Nat) (v2 : (List (List Int))) (v1 : (List (List Int))) (v6 : Int), laws_gIntss_e0 N n v2 v1 v6 = laws_gIntss_l0 N n v2 v1 v6
  | 0, _, _, _ => rfl
  | n + 1, v2, v1, v6 => by
    have h : laws_gIntss_e0 N n v2 v1 = laws_gIntss_l0 N n v2 v1 := by funext v6; exact laws_gIntss_t0 N n v2 v1 v6
    exact (show laws_gIntss_e0 N (n + 1) v2 v1 v6 = laws_gIntss_g0 N v2 v1 (laws_gIntss_e0 N n v2 v1) v6 from by kernel_rfl).trans (by rw [h]; rfl)
theorem laws_gIntss_t (N : Nat) (v1 : (List (List Int))) (v2 : (List (List Int))) : evF (laws_gIntss_E N) [] Try.f43 [.k (.list (.list (.int .i64))), .k (.list (.list (.int .i64)))] [.bool] (v1, v2, ()) = laws_gIntss N v1 v2 := by
  have h0 : (laws_gIntss_e0 N N) = (laws_gIntss_l0 N N) := by funext v2 v1 v6; exact laws_gIntss_t0 N N v2 v1 v6
  exact (show evF (laws_gIntss_E N) [] Try.f43 [.k (.list (.list (.int .i64))), .k (.list (.list (.int .i64)))] [.bool] (v1, v2, ()) = laws_gIntss_g N v1 v2 (laws_gIntss_e0 N N) from by kernel_rfl).trans (by rw [h0]; rfl)
noncomputable def laws_gIntss_con (N : Nat) : Con := ⟨43, [.k (.list (.list (.int .i64))), .k (.list (.list (.int .i64)))], [.bool], fun x => laws_gIntss N x.1 x.2.1⟩
theorem laws_gIntss_s (N : Nat) : (laws_gIntss_con N).Sound Try.prog [] :=
  Con.sound_of (c := laws_gIntss_con N) (E := (laws_gIntss_E N)) (idle := []) Try.func43 (by kernel_rfl) (by kernel_rfl) ⟨(allCons (laws_gInts_s N) allNil), allNil, rfl⟩ allNil (fun x y h => (laws_gIntss_t N x.1 x.2.1).trans h)
/-- pub-orthodrome/laws.gEqual -/
def laws_gEqual_g0 (N : Nat) (self : Geo → Geo → Option (Bool)) (v1 : Geo) (v2 : Geo) : Option (Bool) :=
  (some false)
def laws_gEqual_j0 (N : Nat) (self : Geo → Geo → Option (Bool)) (v1 : Geo) (v2 : Geo) : Option (Bool) :=
  gate N (laws_gEqual_g0 N self v1 v2)
def laws_gEqual_g2 (N : Nat) (self : Geo → Geo → Option (Bool)) (v1 : Geo) (v2 : Geo) (r2 : Int → Option (Bool)) (v13 : Int) : Option (Bool) :=
  (bif (decide ((v13 : Int) < (v1.kids.length : Int))) then ((nth v1.kids v13).bind fun v14 => ((nth v2.kids v13).bind fun v15 => (self (Geo.mk v14.kind v14.layout v14.srid v14.flat v14.ends v14.endss v14.kids) v15).bind fun v16 => (bif (!v16) then (some false) else ((r2 (IntKind.i64.wrap (v13 + 1))))))) else (some true))
def laws_gEqual_l2 (N : Nat) (self : Geo → Geo → Option (Bool)) : Nat → Geo → Geo → Int → Option (Bool)
  | 0, _, _, _ => none
  | n + 1, v1, v2, v13 => laws_gEqual_g2 N self v1 v2 (laws_gEqual_l2 N self n v1 v2) v13
def laws_gEqual_g1 (N : Nat) (self : Geo → Geo → Option (Bool)) (v1 : Geo) (v2 : Geo) (c2 : Geo → Geo → Int → Option (Bool)) (r1 : Int → Option (Bool)) (v7 : Int) : Option (Bool) :=
  (bif (decide ((v7 : Int) < (v1.flat.length : Int))) then ((nth v1.flat v7).bind fun v8 => ((nth v2.flat v7).bind fun v9 => (bif (fne v8 v9) then (some false) else ((r1 (IntKind.i64.wrap (v7 + 1))))))) else ((c2 v1 v2 0)))
def laws_gEqual_l1 (N : Nat) (self : Geo → Geo → Option (Bool)) : Nat → Geo → Geo → Int → Option (Bool)
  | 0, _, _, _ => none
  | n + 1, v1, v2, v7 => laws_gEqual_g1 N self v1 v2 (laws_gEqual_l2 N self N) (laws_gEqual_l1 N self n v1 v2) v7
def laws_gEqual_g (N : Nat) (self : Geo → Geo → Option (Bool)) (v1 : Geo) (v2 : Geo) (c0 : Geo → Geo → Option (Bool)) (c1 : Geo → Geo → Int → Option (Bool)) : Option (Bool) :=
  (bif (v1.kind != v2.kind) then (c0 v1 v2) else (bif (v1.layout != v2.layout) then (c0 v1 v2) else (bif (v1.srid != v2.srid) then (c0 v1 v2) else (bif ((v1.flat.length : Int) != (v2.flat.length : Int)) then (c0 v1 v2) else ((laws_gInts N v1.ends v2.ends).bind fun v3 => bif (!v3) then (c0 v1 v2) else ((laws_gIntss N v1.endss v2.endss).bind fun v4 => bif (!v4) then (c0 v1 v2) else (gate N (bif ((v1.kids.length : Int) != (v2.kids.length : Int)) then (some false) else ((c1 v1 v2 0))))))))))
def laws_gEqual (N : Nat) : Nat → Geo → Geo → Option (Bool)
  | 0, _, _ => none
  | d + 1, v1, v2 => laws_gEqual_g N (laws_gEqual N d) v1 v2 (laws_gEqual_j0 N (laws_gEqual N d)) (laws_gEqual_l1 N (laws_gEqual N d) N)
noncomputable def laws_gEqual_con' (N : Nat) (d : Nat) : Con := ⟨19, [.k .geo, .k .geo], [.bool], fun x => laws_gEqual N d x.1 x.2.1⟩
noncomputable def laws_gEqual_E (N : Nat) (d : Nat) : Env := ⟨Try.prog, N, [laws_gEqual_con' N d, laws_gInts_con N, laws_gIntss_con N], [(0, ⟨[], [], [], [], [], [0, 1], [], none⟩), (1, ⟨[], [], [], [], [], [2, 3], [2, 3], none⟩), (2, ⟨[], [], [], [], [], [2, 3, 61], [2, 3], some N⟩), (3, ⟨[], [], [], [], [], [2, 3], [2, 3], none⟩), (4, ⟨[], [], [], [], [], [2, 3, 63, 64, 65], [2, 3], none⟩), (5, ⟨[], [], [], [], [], [2, 3, 63, 64, 65], [2, 3], none⟩), (6, ⟨[], [], [], [], [], [2, 3, 5, 6, 63, 64, 65], [2, 3], none⟩), (7, ⟨[], [], [], [], [], [2, 3, 63, 64, 65, 76], [2, 3], none⟩), (8, ⟨[], [], [], [], [], [2, 3, 63, 64, 65], [2, 3], none⟩), (9, ⟨[], [], [], [], [], [2, 3], [2, 3], none⟩), (10, ⟨[], [], [], [], [], [3, 79, 80, 81], [3], none⟩), (11, ⟨[], [], [], [], [], [3, 79, 80, 81], [3], none⟩), (12, ⟨[], [], [], [], [], [3, 7, 8, 79, 80, 81], [3, 8], none⟩), (13, ⟨[], [], [], [], [], [3, 79, 80, 81, 93], [3], none⟩), (14, ⟨[], [], [], [], [], [3, 79, 80, 81], [3], none⟩), (15, ⟨[], [], [], [], [], [], [], none⟩)], kdL [], [], [], []⟩
set_option maxRecDepth 100000
noncomputable def laws_gEqual_e0 (N : Nat) (d : Nat) (v1 : Geo) (v2 : Geo) : Option (HR [.bool]) :=
  gate N (evC (laws_gEqual_E N d) (codeAt (bodyOf Try.f19) [1, 0, 1]) ⟨[(2, .ref 2 0), (3, .ref 3 0), (61, .pv .bool true)], [(2, .box [.pv (.int .i64) v1.kind, .pv (.int .i64) v1.layout, .pv (.int .i64) v1.srid, .pv (.list .float) v1.flat, .pv (.list (.int .i64)) v1.ends, .pv (.list (.list (.int .i64))) v1.endss, .pv (.list .geo) v1.kids]), (3, .box [.pv (.int .i64) v2.kind, .pv (.int .i64) v2.layout, .pv (.int .i64) v2.srid, .pv (.list .float) v2.flat, .pv (.list (.int .i64)) v2.ends, .pv (.list (.list (.int .i64))) v2.endss, .pv (.list .geo) v2.kids])], []⟩ (kSeq (advOf (laws_gEqual_E N d) (codeAt (bodyOf Try.f19) [1, 1])) (evC (laws_gEqual_E N d) (codeAt (bodyOf Try.f19) [1, 1])) (kEnd (laws_gEqual_E N d) [] Try.f19.results.toList [.bool])))
noncomputable def laws_gEqual_e2 (N : Nat) (d : Nat) (n : Nat) (v1 : Geo) (v2 : Geo) (v13 : Int) : Option (HR [.bool]) :=
  loopN (advOf (laws_gEqual_E N d) (codeAt (bodyOf Try.f19) [1, 1, 1, 0, 1, 0, 0])) (evC (laws_gEqual_E N d) (codeAt (bodyOf Try.f19) [1, 1, 1, 0, 1, 0, 0])) n ⟨[(3, .ref 3 0), (79, .pv (.list .geo) v1.kids), (80, .pv (.int .i64) (v1.kids.length : Int)), (81, .pv (.int .i64) v13)], [(3, .box [.pv (.int .i64) v2.kind, .pv (.int .i64) v2.layout, .pv (.int .i64) v2.srid, .pv (.list .float) v2.flat, .pv (.list (.int .i64)) v2.ends, .pv (.list (.list (.int .i64))) v2.endss, .pv (.list .geo) v2.kids])], []⟩ (kBlock 2 (kSeq (advOf (laws_gEqual_E N d) (codeAt (bodyOf Try.f19) [1, 1, 1, 1])) (evC (laws_gEqual_E N d) (codeAt (bodyOf Try.f19) [1, 1, 1, 1])) (kEnd (laws_gEqual_E N d) [] Try.f19.results.toList [.bool])))
noncomputable def laws_gEqual_e1 (N : Nat) (d : Nat) (n : Nat) (v1 : Geo) (v2 : Geo) (v7 : Int) : Option (HR [.bool]) :=
  loopN (advOf (laws_gEqual_E N d) (codeAt (bodyOf Try.f19) [1, 1, 0, 1, 0, 0])) (evC (laws_gEqual_E N d) (codeAt (bodyOf Try.f19) [1, 1, 0, 1, 0, 0])) n ⟨[(2, .ref 2 0), (3, .ref 3 0), (63, .pv (.list .float) v1.flat), (64, .pv (.int .i64) (v1.flat.length : Int)), (65, .pv (.int .i64) v7)], [(2, .box [.pv (.int .i64) v1.kind, .pv (.int .i64) v1.layout, .pv (.int .i64) v1.srid, .pv (.list .float) v1.flat, .pv (.list (.int .i64)) v1.ends, .pv (.list (.list (.int .i64))) v1.endss, .pv (.list .geo) v1.kids]), (3, .box [.pv (.int .i64) v2.kind, .pv (.int .i64) v2.layout, .pv (.int .i64) v2.srid, .pv (.list .float) v2.flat, .pv (.list (.int .i64)) v2.ends, .pv (.list (.list (.int .i64))) v2.endss, .pv (.list .geo) v2.kids])], []⟩ (kBlock 0 (kSeq (advOf (laws_gEqual_E N d) (codeAt (bodyOf Try.f19) [1, 1, 1])) (evC (laws_gEqual_E N d) (codeAt (bodyOf Try.f19) [1, 1, 1])) (kEnd (laws_gEqual_E N d) [] Try.f19.results.toList [.bool])))
theorem laws_gEqual_t0 (N : Nat) (d : Nat) (v1 : Geo) (v2 : Geo) : laws_gEqual_e0 N d v1 v2 = laws_gEqual_j0 N (laws_gEqual N d) v1 v2 := by
  exact (congrArg (gate N) (show evC (laws_gEqual_E N d) (codeAt (bodyOf Try.f19) [1, 0, 1]) ⟨[(2, .ref 2 0), (3, .ref 3 0), (61, .pv .bool true)], [(2, .box [.pv (.int .i64) v1.kind, .pv (.int .i64) v1.layout, .pv (.int .i64) v1.srid, .pv (.list .float) v1.flat, .pv (.list (.int .i64)) v1.ends, .pv (.list (.list (.int .i64))) v1.endss, .pv (.list .geo) v1.kids]), (3, .box [.pv (.int .i64) v2.kind, .pv (.int .i64) v2.layout, .pv (.int .i64) v2.srid, .pv (.list .float) v2.flat, .pv (.list (.int .i64)) v2.ends, .pv (.list (.list (.int .i64))) v2.endss, .pv (.list .geo) v2.kids])], []⟩ (kSeq (advOf (laws_gEqual_E N d) (codeAt (bodyOf Try.f19) [1, 1])) (evC (laws_gEqual_E N d) (codeAt (bodyOf Try.f19) [1, 1])) (kEnd (laws_gEqual_E N d) [] Try.f19.results.toList [.bool])) = laws_gEqual_g0 N (laws_gEqual N d) v1 v2 from by kernel_rfl)).trans (by rfl)
theorem laws_gEqual_t2 (N : Nat) (d : Nat) : ∀ (n : Nat) (v1 : Geo) (v2 : Geo) (v13 : Int), laws_gEqual_e2 N d n v1 v2 v13 = laws_gEqual_l2 N (laws_gEqual N d) n v1 v2 v13
  | 0, _, _, _ => rfl
  | n + 1, v1, v2, v13 => by
    have h : laws_gEqual_e2 N d n v1 v2 = laws_gEqual_l2 N (laws_gEqual N d) n v1 v2 := by funext v13; exact laws_gEqual_t2 N d n v1 v2 v13
    exact (show laws_gEqual_e2 N d (n + 1) v1 v2 v13 = laws_gEqual_g2 N (laws_gEqual N d) v1 v2 (laws_gEqual_e2 N d n v1 v2) v13 from by kernel_rfl).trans (by rw [h]; rfl)
theorem laws_gEqual_t1 (N : Nat) (d : Nat) : ∀ (n : Nat) (v1 : Geo) (v2 : Geo) (v7 : Int), laws_gEqual_e1 N d n v1 v2 v7 = laws_gEqual_l1 N (laws_gEqual N d) n v1 v2 v7
  | 0, _, _, _ => rfl
  | n + 1, v1, v2, v7 => by
    have h2 : (laws_gEqual_e2 N d N) = (laws_gEqual_l2 N (laws_gEqual N d) N) := by funext v1 v2 v13; exact laws_gEqual_t2 N d N v1 v2 v13
    have h : laws_gEqual_e1 N d n v1 v2 = laws_gEqual_l1 N (laws_gEqual N d) n v1 v2 := by funext v7; exact laws_gEqual_t1 N d n v1 v2 v7
    exact (show laws_gEqual_e1 N d (n + 1) v1 v2 v7 = laws_gEqual_g1 N (laws_gEqual N d) v1 v2 (laws_gEqual_e2 N d N) (laws_gEqual_e1 N d n v1 v2) v7 from by kernel_rfl).trans (by rw [h2, h]; rfl)
theorem laws_gEqual_t (N : Nat) (d : Nat) (v1 : Geo) (v2 : Geo) : evF (laws_gEqual_E N d) [] Try.f19 [.k .geo, .k .geo] [.bool] (v1, v2, ()) = laws_gEqual N (d + 1) v1 v2 := by
  have h0 : (laws_gEqual_e0 N d) = (laws_gEqual_j0 N (laws_gEqual N d)) := by funext v1 v2; exact laws_gEqual_t0 N d v1 v2
  have h1 : (laws_gEqual_e1 N d N) = (laws_gEqual_l1 N (laws_gEqual N d) N) := by funext v1 v2 v7; exact laws_gEqual_t1 N d N v1 v2 v7
  exact (show evF (laws_gEqual_E N d) [] Try.f19 [.k .geo, .k .geo] [.bool] (v1, v2, ()) = laws_gEqual_g N (laws_gEqual N d) v1 v2 (laws_gEqual_e0 N d) (laws_gEqual_e1 N d N) from by kernel_rfl).trans (by rw [h0, h1]; rfl)
theorem laws_gEqual_s' (N : Nat) : ∀ d, (laws_gEqual_con' N d).Sound Try.prog []
  | 0 => fun _ _ _ _ _ _ _ _ h => by cases h
  | d + 1 => Con.sound_of (c := laws_gEqual_con' N (d + 1)) (E := (laws_gEqual_E N d)) (idle := []) Try.func19 (by kernel_rfl) (by kernel_rfl) ⟨(allCons (laws_gEqual_s' N d) (allCons (laws_gInts_s N) (allCons (laws_gIntss_s N) allNil))), allNil, rfl⟩ allNil (fun x y h => (laws_gEqual_t N d x.1 x.2.1).trans h)
noncomputable def laws_gEqual_con (N : Nat) : Con := laws_gEqual_con' N N
theorem laws_gEqual_s (N : Nat) : (laws_gEqual_con N).Sound Try.prog [] := laws_gEqual_s' N N
/-- pub-orthodrome/impl.floats -/
noncomputable def impl_floats_E (N : Nat) : Env := ⟨Try.prog, N, [], [(0, ⟨[], [], [], [], [], [0], [], none⟩), (1, ⟨[], [], [], [], [], [0], [], none⟩)], kdL [(44, .float)], [], [], []⟩
def impl_floats_g (N : Nat) (v1 : (List Nat)) : Option (((List Nat) × Unit)) :=
  ((lim (v1.length * 8)).bind fun _ => (some (v1, ())))
def impl_floats (N : Nat) (v1 : (List Nat)) : Option (((List Nat) × Unit)) :=
  impl_floats_g N v1
set_option maxRecDepth 100000
theorem impl_floats_t (N : Nat) (v1 : (List Nat)) : evF2 (impl_floats_E N) [] Try.f58 [.k (.list .float)] [⟨[.row 44 .float], [none]⟩] (v1, ()) = impl_floats N v1 := by
  exact (show evF2 (impl_floats_E N) [] Try.f58 [.k (.list .float)] [⟨[.row 44 .float], [none]⟩] (v1, ()) = impl_floats_g N v1 from by kernel_rfl).trans (by rfl)
noncomputable def impl_floats_con (N : Nat) : Con2 := ⟨58, [.k (.list .float)], [⟨[.row 44 .float], [none]⟩], fun x => impl_floats N x.1⟩
theorem impl_floats_s (N : Nat) : (impl_floats_con N).Sound Try.prog [] :=
  Con2.sound_of (c := impl_floats_con N) (E := (impl_floats_E N)) (idle := []) Try.func58 (by kernel_rfl) (by kernel_rfl) ⟨allNil, allNil, rfl⟩ allNil (fun x y h => (impl_floats_t N x.1).trans h)
/-- (pub-orthodrome/pub/gogeom.Layout).Stride -/
noncomputable def gogeom_Layout_Stride_E (N : Nat) : Env := ⟨Try.prog, N, [], [(0, ⟨[], [], [], [], [], [0], [], none⟩), (1, ⟨[], [], [], [], [], [0], [], none⟩), (3, ⟨[], [], [], [], [], [0, 3], [], none⟩), (4, ⟨[], [], [], [], [], [0, 3, 5], [], none⟩), (6, ⟨[], [], [], [], [], [0, 3, 7], [], none⟩), (8, ⟨[], [], [], [], [], [0, 3, 9], [], none⟩), (10, ⟨[], [], [], [], [], [0, 3, 11], [], none⟩), (12, ⟨[], [], [], [], [], [0, 13], [], none⟩)], kdL [], [], [], []⟩
def gogeom_Layout_Stride_g (N : Nat) (v1 : Int) : Option (Int) :=
  (bif (v1 == 0) then (some 0) else (bif (v1 == 1) then (some 2) else (bif (v1 == 2) then (some 3) else (bif (v1 == 3) then (some 3) else (bif (v1 == 4) then (some 4) else (some v1))))))
def gogeom_Layout_Stride (N : Nat) (v1 : Int) : Option (Int) :=
  gogeom_Layout_Stride_g N v1
set_option maxRecDepth 100000
theorem gogeom_Layout_Stride_t (N : Nat) (v1 : Int) : evF (gogeom_Layout_Stride_E N) [] Try.f95 [.k (.int .i64)] [(.int .i64)] (v1, ()) = gogeom_Layout_Stride N v1 := by
  exact (show evF (gogeom_Layout_Stride_E N) [] Try.f95 [.k (.int .i64)] [(.int .i64)] (v1, ()) = gogeom_Layout_Stride_g N v1 from by kernel_rfl).trans (by rfl)
noncomputable def gogeom_Layout_Stride_con (N : Nat) : Con := ⟨95, [.k (.int .i64)], [(.int .i64)], fun x => gogeom_Layout_Stride N x.1⟩
theorem gogeom_Layout_Stride_s (N : Nat) : (gogeom_Layout_Stride_con N).Sound Try.prog [] :=
  Con.sound_of (c := gogeom_Layout_Stride_con N) (E := (gogeom_Layout_Stride_E N)) (idle := []) Try.func95 (by kernel_rfl) (by kernel_rfl) ⟨allNil, allNil, rfl⟩ allNil (fun x y h => (gogeom_Layout_Stride_t N x.1).trans h)
/-- pub-orthodrome/pub/gogeom.NewPointFlat -/
noncomputable def gogeom_NewPointFlat_b_E (N : Nat) : Env := ⟨Try.prog, N, [gogeom_Layout_Stride_con N], [(0, ⟨[], [], [], [], [], [0, 1], [1000000], none⟩), (1, ⟨[], [], [], [], [], [0, 1], [1000000], none⟩), (2, ⟨[], [], [], [], [], [0, 1, 5], [6, 1000000], none⟩), (3, ⟨[], [], [], [], [], [0, 1, 5], [6, 1000000], none⟩), (4, ⟨[], [], [], [], [], [1, 5], [6, 1000000], none⟩), (5, ⟨[], [], [], [], [], [5], [6, 1000000], none⟩)], kdL [], [], [], []⟩
def gogeom_NewPointFlat_b_g (N : Nat) (v1 : Int) (v2 : (List Nat)) : Option (((Int × Int × (List Nat) × Int × Unit) × Unit)) :=
  ((gogeom_Layout_Stride N v1).bind fun v3 => (some ((v1, v3, v2, 0, ()), ())))
def gogeom_NewPointFlat_b (N : Nat) (v1 : Int) (v2 : (List Nat)) : Option (((Int × Int × (List Nat) × Int × Unit) × Unit)) :=
  gogeom_NewPointFlat_b_g N v1 v2
set_option maxRecDepth 100000
theorem gogeom_NewPointFlat_b_t (N : Nat) (v1 : Int) (v2 : (List Nat)) : evF2 (gogeom_NewPointFlat_b_E N) [] Try.f63 [.k (.int .i64), .row 44 .float] [⟨[.box [.k (.int .i64), .k (.int .i64), .row 44 .float, .k (.int .i64)]], [none, none]⟩] (v1, v2, ()) = gogeom_NewPointFlat_b N v1 v2 := by
  exact (show evF2 (gogeom_NewPointFlat_b_E N) [] Try.f63 [.k (.int .i64), .row 44 .float] [⟨[.box [.k (.int .i64), .k (.int .i64), .row 44 .float, .k (.int .i64)]], [none, none]⟩] (v1, v2, ()) = gogeom_NewPointFlat_b_g N v1 v2 from by kernel_rfl).trans (by rfl)
noncomputable def gogeom_NewPointFlat_b_con (N : Nat) : Con2 := ⟨63, [.k (.int .i64), .row 44 .float], [⟨[.box [.k (.int .i64), .k (.int .i64), .row 44 .float, .k (.int .i64)]], [none, none]⟩], fun x => gogeom_NewPointFlat_b N x.1 x.2.1⟩
theorem gogeom_NewPointFlat_b_s (N : Nat) : (gogeom_NewPointFlat_b_con N).Sound Try.prog [] :=
  Con2.sound_of (c := gogeom_NewPointFlat_b_con N) (E := (gogeom_NewPointFlat_b_E N)) (idle := []) Try.func63 (by kernel_rfl) (by kernel_rfl) ⟨(allCons (gogeom_Layout_Stride_s N) allNil), allNil, rfl⟩ allNil (fun x y h => (gogeom_NewPointFlat_b_t N x.1 x.2.1).trans h)
/-- (*pub-orthodrome/pub/gogeom.Point).SetSRID -/
noncomputable def gogeom_Point_SetSRID_E (N : Nat) : Env := ⟨Try.prog, N, [], [(0, ⟨[], [], [], [], [], [0, 1], [1000000, 1000001], none⟩), (1, ⟨[], [], [], [], [], [0, 1], [1000000, 1000001], none⟩), (2, ⟨[], [], [], [], [], [0], [1000000, 1000001], none⟩)], kdL [], [], [], []⟩
def gogeom_Point_SetSRID_g (N : Nat) (v1 : (Int × Int × (List Nat) × Int × Unit)) (v2 : Int) : Option ((Unit × (Int × Int × (List Nat) × Int × Unit) × Unit)) :=
  (some ((), (v1.1, v1.2.1, v1.2.2.1, v2, ()), ()))
def gogeom_Point_SetSRID (N : Nat) (v1 : (Int × Int × (List Nat) × Int × Unit)) (v2 : Int) : Option ((Unit × (Int × Int × (List Nat) × Int × Unit) × Unit)) :=
  gogeom_Point_SetSRID_g N v1 v2
set_option maxRecDepth 100000
theorem gogeom_Point_SetSRID_t (N : Nat) (v1 : (Int × Int × (List Nat) × Int × Unit)) (v2 : Int) : evF2 (gogeom_Point_SetSRID_E N) [] Try.f64 [.box [.k (.int .i64), .k (.int .i64), .row 44 .float, .k (.int .i64)], .k (.int .i64)] [⟨[.par 0], [some (.box [.k (.int .i64), .k (.int .i64), .row 44 .float, .k (.int .i64)]), none]⟩] (v1, v2, ()) = gogeom_Point_SetSRID N v1 v2 := by
  exact (show evF2 (gogeom_Point_SetSRID_E N) [] Try.f64 [.box [.k (.int .i64), .k (.int .i64), .row 44 .float, .k (.int .i64)], .k (.int .i64)] [⟨[.par 0], [some (.box [.k (.int .i64), .k (.int .i64), .row 44 .float, .k (.int .i64)]), none]⟩] (v1, v2, ()) = gogeom_Point_SetSRID_g N v1 v2 from by kernel_rfl).trans (by rfl)
noncomputable def gogeom_Point_SetSRID_con (N : Nat) : Con2 := ⟨64, [.box [.k (.int .i64), .k (.int .i64), .row 44 .float, .k (.int .i64)], .k (.int .i64)], [⟨[.par 0], [some (.box [.k (.int .i64), .k (.int .i64), .row 44 .float, .k (.int .i64)]), none]⟩], fun x => gogeom_Point_SetSRID N x.1 x.2.1⟩
theorem gogeom_Point_SetSRID_s (N : Nat) : (gogeom_Point_SetSRID_con N).Sound Try.prog [] :=
  Con2.sound_of (c := gogeom_Point_SetSRID_con N) (E := (gogeom_Point_SetSRID_E N)) (idle := []) Try.func64 (by kernel_rfl) (by kernel_rfl) ⟨allNil, allNil, rfl⟩ allNil (fun x y h => (gogeom_Point_SetSRID_t N x.1 x.2.1).trans h)
/-- pub-orthodrome/pub/gogeom.NewLineStringFlat -/
noncomputable def gogeom_NewLineStringFlat_b_E (N : Nat) : Env := ⟨Try.prog, N, [gogeom_Layout_Stride_con N], [(0, ⟨[], [], [], [], [], [0, 1], [1000000], none⟩), (1, ⟨[], [], [], [], [], [0, 1], [1000000], none⟩), (2, ⟨[], [], [], [], [], [0, 1, 5], [6, 1000000], none⟩), (3, ⟨[], [], [], [], [], [0, 1, 5], [6, 1000000], none⟩), (4, ⟨[], [], [], [], [], [1, 5], [6, 1000000], none⟩), (5, ⟨[], [], [], [], [], [5], [6, 1000000], none⟩)], kdL [], [], [], []⟩
def gogeom_NewLineStringFlat_b_g (N : Nat) (v1 : Int) (v2 : (List Nat)) : Option (((Int × Int × (List Nat) × Int × Unit) × Unit)) :=
  ((gogeom_Layout_Stride N v1).bind fun v3 => (some ((v1, v3, v2, 0, ()), ())))
def gogeom_NewLineStringFlat_b (N : Nat) (v1 : Int) (v2 : (List Nat)) : Option (((Int × Int × (List Nat) × Int × Unit) × Unit)) :=
  gogeom_NewLineStringFlat_b_g N v1 v2
set_option maxRecDepth 100000
theorem gogeom_NewLineStringFlat_b_t (N : Nat) (v1 : Int) (v2 : (List Nat)) : evF2 (gogeom_NewLineStringFlat_b_E N) [] Try.f65 [.k (.int .i64), .row 44 .float] [⟨[.box [.k (.int .i64), .k (.int .i64), .row 44 .float, .k (.int .i64)]], [none, none]⟩] (v1, v2, ()) = gogeom_NewLineStringFlat_b N v1 v2 := by
  exact (show evF2 (gogeom_NewLineStringFlat_b_E N) [] Try.f65 [.k (.int .i64), .row 44 .float] [⟨[.box [.k (.int .i64), .k (.int .i64), .row 44 .float, .k (.int .i64)]], [none, none]⟩] (v1, v2, ()) = gogeom_NewLineStringFlat_b_g N v1 v2 from by kernel_rfl).trans (by rfl)
noncomputable def gogeom_NewLineStringFlat_b_con (N : Nat) : Con2 := ⟨65, [.k (.int .i64), .row 44 .float], [⟨[.box [.k (.int .i64), .k (.int .i64), .row 44 .float, .k (.int .i64)]], [none, none]⟩], fun x => gogeom_NewLineStringFlat_b N x.1 x.2.1⟩
theorem gogeom_NewLineStringFlat_b_s (N : Nat) : (gogeom_NewLineStringFlat_b_con N).Sound Try.prog [] :=
  Con2.sound_of (c := gogeom_NewLineStringFlat_b_con N) (E := (gogeom_NewLineStringFlat_b_E N)) (idle := []) Try.func65 (by kernel_rfl) (by kernel_rfl) ⟨(allCons (gogeom_Layout_Stride_s N) allNil), allNil, rfl⟩ allNil (fun x y h => (gogeom_NewLineStringFlat_b_t N x.1 x.2.1).trans h)
/-- (*pub-orthodrome/pub/gogeom.LineString).SetSRID -/
noncomputable def gogeom_LineString_SetSRID_E (N : Nat) : Env := ⟨Try.prog, N, [], [(0, ⟨[], [], [], [], [], [0, 1], [1000000, 1000001], none⟩), (1, ⟨[], [], [], [], [], [0, 1], [1000000, 1000001], none⟩), (2, ⟨[], [], [], [], [], [0], [1000000, 1000001], none⟩)], kdL [], [], [], []⟩
def gogeom_LineString_SetSRID_g (N : Nat) (v1 : (Int × Int × (List Nat) × Int × Unit)) (v2 : Int) : Option ((Unit × (Int × Int × (List Nat) × Int × Unit) × Unit)) :=
  (some ((), (v1.1, v1.2.1, v1.2.2.1, v2, ()), ()))
def gogeom_LineString_SetSRID (N : Nat) (v1 : (Int × Int × (List Nat) × Int × Unit)) (v2 : Int) : Option ((Unit × (Int × Int × (List Nat) × Int × Unit) × Unit)) :=
  gogeom_LineString_SetSRID_g N v1 v2
set_option maxRecDepth 100000
theorem gogeom_LineString_SetSRID_t (N : Nat) (v1 : (Int × Int × (List Nat) × Int × Unit)) (v2 : Int) : evF2 (gogeom_LineString_SetSRID_E N) [] Try.f66 [.box [.k (.int .i64), .k (.int .i64), .row 44 .float, .k (.int .i64)], .k (.int .i64)] [⟨[.par 0], [some (.box [.k (.int .i64), .k (.int .i64), .row 44 .float, .k (.int .i64)]), none]⟩] (v1, v2, ()) = gogeom_LineString_SetSRID N v1 v2 := by
  exact (show evF2 (gogeom_LineString_SetSRID_E N) [] Try.f66 [.box [.k (.int .i64), .k (.int .i64), .row 44 .float, .k (.int .i64)], .k (.int .i64)] [⟨[.par 0], [some (.box [.k (.int .i64), .k (.int .i64), .row 44 .float, .k (.int .i64)]), none]⟩] (v1, v2, ()) = gogeom_LineString_SetSRID_g N v1 v2 from by kernel_rfl).trans (by rfl)
noncomputable def gogeom_LineString_SetSRID_con (N : Nat) : Con2 := ⟨66, [.box [.k (.int .i64), .k (.int .i64), .row 44 .float, .k (.int .i64)], .k (.int .i64)], [⟨[.par 0], [some (.box [.k (.int .i64), .k (.int .i64), .row 44 .float, .k (.int .i64)]), none]⟩], fun x => gogeom_LineString_SetSRID N x.1 x.2.1⟩
theorem gogeom_LineString_SetSRID_s (N : Nat) : (gogeom_LineString_SetSRID_con N).Sound Try.prog [] :=
  Con2.sound_of (c := gogeom_LineString_SetSRID_con N) (E := (gogeom_LineString_SetSRID_E N)) (idle := []) Try.func66 (by kernel_rfl) (by kernel_rfl) ⟨allNil, allNil, rfl⟩ allNil (fun x y h => (gogeom_LineString_SetSRID_t N x.1 x.2.1).trans h)
/-- pub-orthodrome/pub/gogeom.NewLinearRingFlat -/
noncomputable def gogeom_NewLinearRingFlat_b_E (N : Nat) : Env := ⟨Try.prog, N, [gogeom_Layout_Stride_con N], [(0, ⟨[], [], [], [], [], [0, 1], [1000000], none⟩), (1, ⟨[], [], [], [], [], [0, 1], [1000000], none⟩), (2, ⟨[], [], [], [], [], [0, 1, 5], [6, 1000000], none⟩), (3, ⟨[], [], [], [], [], [0, 1, 5], [6, 1000000], none⟩), (4, ⟨[], [], [], [], [], [1, 5], [6, 1000000], none⟩), (5, ⟨[], [], [], [], [], [5], [6, 1000000], none⟩)], kdL [], [], [], []⟩
def gogeom_NewLinearRingFlat_b_g (N : Nat) (v1 : Int) (v2 : (List Nat)) : Option (((Int × Int × (List Nat) × Int × Unit) × Unit)) :=
  ((gogeom_Layout_Stride N v1).bind fun v3 => (some ((v1, v3, v2, 0, ()), ())))
def gogeom_NewLinearRingFlat_b (N : Nat) (v1 : Int) (v2 : (List Nat)) : Option (((Int × Int × (List Nat) × Int × Unit) × Unit)) :=
  gogeom_NewLinearRingFlat_b_g N v1 v2
set_option maxRecDepth 100000
theorem gogeom_NewLinearRingFlat_b_t (N : Nat) (v1 : Int) (v2 : (List Nat)) : evF2 (gogeom_NewLinearRingFlat_b_E N) [] Try.f67 [.k (.int .i64), .row 44 .float] [⟨[.box [.k (.int .i64), .k (.int .i64), .row 44 .float, .k (.int .i64)]], [none, none]⟩] (v1, v2, ()) = gogeom_NewLinearRingFlat_b N v1 v2 := by
  exact (show evF2 (gogeom_NewLinearRingFlat_b_E N) [] Try.f67 [.k (.int .i64), .row 44 .float] [⟨[.box [.k (.int .i64), .k (.int .i64), .row 44 .float, .k (.int .i64)]], [none, none]⟩] (v1, v2, ()) = gogeom_NewLinearRingFlat_b_g N v1 v2 from by kernel_rfl).trans (by rfl)
noncomputable def gogeom_NewLinearRingFlat_b_con (N : Nat) : Con2 := ⟨67, [.k (.int .i64), .row 44 .float], [⟨[.box [.k (.int .i64), .k (.int .i64), .row 44 .float, .k (.int .i64)]], [none, none]⟩], fun x => gogeom_NewLinearRingFlat_b N x.1 x.2.1⟩
theorem gogeom_NewLinearRingFlat_b_s (N : Nat) : (gogeom_NewLinearRingFlat_b_con N).Sound Try.prog [] :=
  Con2.sound_of (c := gogeom_NewLinearRingFlat_b_con N) (E := (gogeom_NewLinearRingFlat_b_E N)) (idle := []) Try.func67 (by kernel_rfl) (by kernel_rfl) ⟨(allCons (gogeom_Layout_Stride_s N) allNil), allNil, rfl⟩ allNil (fun x y h => (gogeom_NewLinearRingFlat_b_t N x.1 x.2.1).trans h)
/-- (*pub-orthodrome/pub/gogeom.LinearRing).SetSRID -/
noncomputable def gogeom_LinearRing_SetSRID_E (N : Nat) : Env := ⟨Try.prog, N, [], [(0, ⟨[], [], [], [], [], [0, 1], [1000000, 1000001], none⟩), (1, ⟨[], [], [], [], [], [0, 1], [1000000, 1000001], none⟩), (2, ⟨[], [], [], [], [], [0], [1000000, 1000001], none⟩)], kdL [], [], [], []⟩
def gogeom_LinearRing_SetSRID_g (N : Nat) (v1 : (Int × Int × (List Nat) × Int × Unit)) (v2 : Int) : Option ((Unit × (Int × Int × (List Nat) × Int × Unit) × Unit)) :=
  (some ((), (v1.1, v1.2.1, v1.2.2.1, v2, ()), ()))
def gogeom_LinearRing_SetSRID (N : Nat) (v1 : (Int × Int × (List Nat) × Int × Unit)) (v2 : Int) : Option ((Unit × (Int × Int × (List Nat) × Int × Unit) × Unit)) :=
  gogeom_LinearRing_SetSRID_g N v1 v2
set_option maxRecDepth 100000
theorem gogeom_LinearRing_SetSRID_t (N : Nat) (v1 : (Int × Int × (List Nat) × Int × Unit)) (v2 : Int) : evF2 (gogeom_LinearRing_SetSRID_E N) [] Try.f68 [.box [.k (.int .i64), .k (.int .i64), .row 44 .float, .k (.int .i64)], .k (.int .i64)] [⟨[.par 0], [some (.box [.k (.int .i64), .k (.int .i64), .row 44 .float, .k (.int .i64)]), none]⟩] (v1, v2, ()) = gogeom_LinearRing_SetSRID N v1 v2 := by
  exact (show evF2 (gogeom_LinearRing_SetSRID_E N) [] Try.f68 [.box [.k (.int .i64), .k (.int .i64), .row 44 .float, .k (.int .i64)], .k (.int .i64)] [⟨[.par 0], [some (.box [.k (.int .i64), .k (.int .i64), .row 44 .float, .k (.int .i64)]), none]⟩] (v1, v2, ()) = gogeom_LinearRing_SetSRID_g N v1 v2 from by kernel_rfl).trans (by rfl)
noncomputable def gogeom_LinearRing_SetSRID_con (N : Nat) : Con2 := ⟨68, [.box [.k (.int .i64), .k (.int .i64), .row 44 .float, .k (.int .i64)], .k (.int .i64)], [⟨[.par 0], [some (.box [.k (.int .i64), .k (.int .i64), .row 44 .float, .k (.int .i64)]), none]⟩], fun x => gogeom_LinearRing_SetSRID N x.1 x.2.1⟩
theorem gogeom_LinearRing_SetSRID_s (N : Nat) : (gogeom_LinearRing_SetSRID_con N).Sound Try.prog [] :=
  Con2.sound_of (c := gogeom_LinearRing_SetSRID_con N) (E := (gogeom_LinearRing_SetSRID_E N)) (idle := []) Try.func68 (by kernel_rfl) (by kernel_rfl) ⟨allNil, allNil, rfl⟩ allNil (fun x y h => (gogeom_LinearRing_SetSRID_t N x.1 x.2.1).trans h)
/-- pub-orthodrome/impl.ints -/
noncomputable def impl_ints_E (N : Nat) : Env := ⟨Try.prog, N, [], [(0, ⟨[], [], [], [], [], [0], [], none⟩), (1, ⟨[], [], [], [], [], [0], [], none⟩)], kdL [(3, (.int .i64))], [], [], []⟩
def impl_ints_g (N : Nat) (v1 : (List Int)) : Option (((List Int) × Unit)) :=
  ((lim (v1.length * 8)).bind fun _ => (some (v1, ())))
def impl_ints (N : Nat) (v1 : (List Int)) : Option (((List Int) × Unit)) :=
  impl_ints_g N v1
set_option maxRecDepth 100000
theorem impl_ints_t (N : Nat) (v1 : (List Int)) : evF2 (impl_ints_E N) [] Try.f70 [.k (.list (.int .i64))] [⟨[.row 3 (.int .i64)], [none]⟩] (v1, ()) = impl_ints N v1 := by
  exact (show evF2 (impl_ints_E N) [] Try.f70 [.k (.list (.int .i64))] [⟨[.row 3 (.int .i64)], [none]⟩] (v1, ()) = impl_ints_g N v1 from by kernel_rfl).trans (by rfl)
noncomputable def impl_ints_con (N : Nat) : Con2 := ⟨70, [.k (.list (.int .i64))], [⟨[.row 3 (.int .i64)], [none]⟩], fun x => impl_ints N x.1⟩
theorem impl_ints_s (N : Nat) : (impl_ints_con N).Sound Try.prog [] :=
  Con2.sound_of (c := impl_ints_con N) (E := (impl_ints_E N)) (idle := []) Try.func70 (by kernel_rfl) (by kernel_rfl) ⟨allNil, allNil, rfl⟩ allNil (fun x y h => (impl_ints_t N x.1).trans h)
/-- pub-orthodrome/pub/gogeom.NewPolygonFlat -/
noncomputable def gogeom_NewPolygonFlat_b_E (N : Nat) : Env := ⟨Try.prog, N, [gogeom_Layout_Stride_con N], [(0, ⟨[], [], [], [], [], [0, 1, 2], [1000000, 1000001], none⟩), (1, ⟨[], [], [], [], [], [0, 1, 2], [1000000, 1000001], none⟩), (2, ⟨[], [], [], [], [], [0, 1, 2, 7], [8, 1000000, 1000001], none⟩), (3, ⟨[], [], [], [], [], [0, 1, 2, 7], [8, 1000000, 1000001], none⟩), (4, ⟨[], [], [], [], [], [1, 2, 7], [8, 1000000, 1000001], none⟩), (5, ⟨[], [], [], [], [], [2, 7], [8, 1000000, 1000001], none⟩), (6, ⟨[], [], [], [], [], [7], [8, 1000000, 1000001], none⟩)], kdL [], [], [], []⟩
def gogeom_NewPolygonFlat_b_g (N : Nat) (v1 : Int) (v2 : (List Nat)) (v3 : (List Int)) : Option (((Int × Int × (List Nat) × Int × (List Int) × Unit) × Unit)) :=
  ((gogeom_Layout_Stride N v1).bind fun v4 => (some ((v1, v4, v2, 0, v3, ()), ())))
def gogeom_NewPolygonFlat_b (N : Nat) (v1 : Int) (v2 : (List Nat)) (v3 : (List Int)) : Option (((Int × Int × (List Nat) × Int × (List Int) × Unit) × Unit)) :=
  gogeom_NewPolygonFlat_b_g N v1 v2 v3
set_option maxRecDepth 100000
theorem gogeom_NewPolygonFlat_b_t (N : Nat) (v1 : Int) (v2 : (List Nat)) (v3 : (List Int)) : evF2 (gogeom_NewPolygonFlat_b_E N) [] Try.f69 [.k (.int .i64), .row 44 .float, .row 3 (.int .i64)] [⟨[.box [.k (.int .i64), .k (.int .i64), .row 44 .float, .k (.int .i64), .row 3 (.int .i64)]], [none, none, none]⟩] (v1, v2, v3, ()) = gogeom_NewPolygonFlat_b N v1 v2 v3 := by
  exact (show evF2 (gogeom_NewPolygonFlat_b_E N) [] Try.f69 [.k (.int .i64), .row 44 .float, .row 3 (.int .i64)] [⟨[.box [.k (.int .i64), .k (.int .i64), .row 44 .float, .k (.int .i64), .row 3 (.int .i64)]], [none, none, none]⟩] (v1, v2, v3, ()) = gogeom_NewPolygonFlat_b_g N v1 v2 v3 from by kernel_rfl).trans (by rfl)
noncomputable def gogeom_NewPolygonFlat_b_con (N : Nat) : Con2 := ⟨69, [.k (.int .i64), .row 44 .float, .row 3 (.int .i64)], [⟨[.box [.k (.int .i64), .k (.int .i64), .row 44 .float, .k (.int .i64), .row 3 (.int .i64)]], [none, none, none]⟩], fun x => gogeom_NewPolygonFlat_b N x.1 x.2.1 x.2.2.1⟩
theorem gogeom_NewPolygonFlat_b_s (N : Nat) : (gogeom_NewPolygonFlat_b_con N).Sound Try.prog [] :=
  Con2.sound_of (c := gogeom_NewPolygonFlat_b_con N) (E := (gogeom_NewPolygonFlat_b_E N)) (idle := []) Try.func69 (by kernel_rfl) (by kernel_rfl) ⟨(allCons (gogeom_Layout_Stride_s N) allNil), allNil, rfl⟩ allNil (fun x y h => (gogeom_NewPolygonFlat_b_t N x.1 x.2.1 x.2.2.1).trans h)
/-- (*pub-orthodrome/pub/gogeom.Polygon).SetSRID -/
noncomputable def gogeom_Polygon_SetSRID_E (N : Nat) : Env := ⟨Try.prog, N, [], [(0, ⟨[], [], [], [], [], [0, 1], [1000000, 1000001, 1000002], none⟩), (1, ⟨[], [], [], [], [], [0, 1], [1000000, 1000001, 1000002], none⟩), (2, ⟨[], [], [], [], [], [0], [1000000, 1000001, 1000002], none⟩)], kdL [], [], [], []⟩
def gogeom_Polygon_SetSRID_g (N : Nat) (v1 : (Int × Int × (List Nat) × Int × (List Int) × Unit)) (v2 : Int) : Option ((Unit × (Int × Int × (List Nat) × Int × (List Int) × Unit) × Unit)) :=
  (some ((), (v1.1, v1.2.1, v1.2.2.1, v2, v1.2.2.2.2.1, ()), ()))
def gogeom_Polygon_SetSRID (N : Nat) (v1 : (Int × Int × (List Nat) × Int × (List Int) × Unit)) (v2 : Int) : Option ((Unit × (Int × Int × (List Nat) × Int × (List Int) × Unit) × Unit)) :=
  gogeom_Polygon_SetSRID_g N v1 v2
set_option maxRecDepth 100000
theorem gogeom_Polygon_SetSRID_t (N : Nat) (v1 : (Int × Int × (List Nat) × Int × (List Int) × Unit)) (v2 : Int) : evF2 (gogeom_Polygon_SetSRID_E N) [] Try.f71 [.box [.k (.int .i64), .k (.int .i64), .row 44 .float, .k (.int .i64), .row 3 (.int .i64)], .k (.int .i64)] [⟨[.par 0], [some (.box [.k (.int .i64), .k (.int .i64), .row 44 .float, .k (.int .i64), .row 3 (.int .i64)]), none]⟩] (v1, v2, ()) = gogeom_Polygon_SetSRID N v1 v2 := by
  exact (show evF2 (gogeom_Polygon_SetSRID_E N) [] Try.f71 [.box [.k (.int .i64), .k (.int .i64), .row 44 .float, .k (.int .i64), .row 3 (.int .i64)], .k (.int .i64)] [⟨[.par 0], [some (.box [.k (.int .i64), .k (.int .i64), .row 44 .float, .k (.int .i64), .row 3 (.int .i64)]), none]⟩] (v1, v2, ()) = gogeom_Polygon_SetSRID_g N v1 v2 from by kernel_rfl).trans (by rfl)
noncomputable def gogeom_Polygon_SetSRID_con (N : Nat) : Con2 := ⟨71, [.box [.k (.int .i64), .k (.int .i64), .row 44 .float, .k (.int .i64), .row 3 (.int .i64)], .k (.int .i64)], [⟨[.par 0], [some (.box [.k (.int .i64), .k (.int .i64), .row 44 .float, .k (.int .i64), .row 3 (.int .i64)]), none]⟩], fun x => gogeom_Polygon_SetSRID N x.1 x.2.1⟩
theorem gogeom_Polygon_SetSRID_s (N : Nat) : (gogeom_Polygon_SetSRID_con N).Sound Try.prog [] :=
  Con2.sound_of (c := gogeom_Polygon_SetSRID_con N) (E := (gogeom_Polygon_SetSRID_E N)) (idle := []) Try.func71 (by kernel_rfl) (by kernel_rfl) ⟨allNil, allNil, rfl⟩ allNil (fun x y h => (gogeom_Polygon_SetSRID_t N x.1 x.2.1).trans h)
/-- pub-orthodrome/pub/gogeom.NewMultiPointFlatOptionWithEnds -/
noncomputable def gogeom_NewMultiPointFlatOptionWithEnds_E (N : Nat) : Env := ⟨Try.prog, N, [], [(0, ⟨[], [], [], [], [], [0], [1000000], none⟩), (1, ⟨[], [], [], [], [], [1], [1, 1000000], none⟩)], kdL [], [], [], []⟩
def gogeom_NewMultiPointFlatOptionWithEnds_g (N : Nat) (v1 : (List Int)) : Option (((((List Int) × Unit) × Unit) × Unit)) :=
  (some (((v1, ()), ()), ()))
def gogeom_NewMultiPointFlatOptionWithEnds (N : Nat) (v1 : (List Int)) : Option (((((List Int) × Unit) × Unit) × Unit)) :=
  gogeom_NewMultiPointFlatOptionWithEnds_g N v1
set_option maxRecDepth 100000
theorem gogeom_NewMultiPointFlatOptionWithEnds_t (N : Nat) (v1 : (List Int)) : evF2 (gogeom_NewMultiPointFlatOptionWithEnds_E N) [] Try.f73 [.row 3 (.int .i64)] [⟨[.fn 98 [.box [.row 3 (.int .i64)]]], [none]⟩] (v1, ()) = gogeom_NewMultiPointFlatOptionWithEnds N v1 := by
  exact (show evF2 (gogeom_NewMultiPointFlatOptionWithEnds_E N) [] Try.f73 [.row 3 (.int .i64)] [⟨[.fn 98 [.box [.row 3 (.int .i64)]]], [none]⟩] (v1, ()) = gogeom_NewMultiPointFlatOptionWithEnds_g N v1 from by kernel_rfl).trans (by rfl)
noncomputable def gogeom_NewMultiPointFlatOptionWithEnds_con (N : Nat) : Con2 := ⟨73, [.row 3 (.int .i64)], [⟨[.fn 98 [.box [.row 3 (.int .i64)]]], [none]⟩], fun x => gogeom_NewMultiPointFlatOptionWithEnds N x.1⟩
theorem gogeom_NewMultiPointFlatOptionWithEnds_s (N : Nat) : (gogeom_NewMultiPointFlatOptionWithEnds_con N).Sound Try.prog [] :=
  Con2.sound_of (c := gogeom_NewMultiPointFlatOptionWithEnds_con N) (E := (gogeom_NewMultiPointFlatOptionWithEnds_E N)) (idle := []) Try.func73 (by kernel_rfl) (by kernel_rfl) ⟨allNil, allNil, rfl⟩ allNil (fun x y h => (gogeom_NewMultiPointFlatOptionWithEnds_t N x.1).trans h)
/-- pub-orthodrome/pub/gogeom.NewMultiPointFlatOptionWithEnds$1 -/
noncomputable def gogeom_NewMultiPointFlatOptionWithEnds_1_b_E (N : Nat) : Env := ⟨Try.prog, N, [], [(0, ⟨[], [], [], [], [], [0, 1], [1000000, 1000001, 1000002], none⟩)], kdL [], [], [], []⟩
def gogeom_NewMultiPointFlatOptionWithEnds_1_b_g (N : Nat) (v1 : (Int × Int × (List Nat) × Int × (List Int) × Unit)) (v2 : ((List Int) × Unit)) : Option (((Int × Int × (List Nat) × Int × (List Int) × Unit) × ((List Int) × Unit) × Unit)) :=
  some ((v1.1, v1.2.1, v1.2.2.1, v1.2.2.2.1, v2.1, ()), (v2.1, ()), ())
def gogeom_NewMultiPointFlatOptionWithEnds_1_b (N : Nat) (v1 : (Int × Int × (List Nat) × Int × (List Int) × Unit)) (v2 : ((List Int) × Unit)) : Option (((Int × Int × (List Nat) × Int × (List Int) × Unit) × ((List Int) × Unit) × Unit)) :=
  gogeom_NewMultiPointFlatOptionWithEnds_1_b_g N v1 v2
set_option maxRecDepth 100000
theorem gogeom_NewMultiPointFlatOptionWithEnds_1_b_t (N : Nat) (v1 : (Int × Int × (List Nat) × Int × (List Int) × Unit)) (v2 : ((List Int) × Unit)) : evF2 (gogeom_NewMultiPointFlatOptionWithEnds_1_b_E N) [] Try.f98 [.box [.k (.int .i64), .k (.int .i64), .row 44 .float, .k (.int .i64), .k (.list (.int .i64))], .box [.k (.list (.int .i64))]] [⟨[], [some (.box [.k (.int .i64), .k (.int .i64), .krow 1 44 .float, .k (.int .i64), .k (.list (.int .i64))]), some (.box [.k (.list (.int .i64))])]⟩] (v1, v2, ()) = gogeom_NewMultiPointFlatOptionWithEnds_1_b N v1 v2 := by
  exact (show evF2 (gogeom_NewMultiPointFlatOptionWithEnds_1_b_E N) [] Try.f98 [.box [.k (.int .i64), .k (.int .i64), .row 44 .float, .k (.int .i64), .k (.list (.int .i64))], .box [.k (.list (.int .i64))]] [⟨[], [some (.box [.k (.int .i64), .k (.int .i64), .krow 1 44 .float, .k (.int .i64), .k (.list (.int .i64))]), some (.box [.k (.list (.int .i64))])]⟩] (v1, v2, ()) = gogeom_NewMultiPointFlatOptionWithEnds_1_b_g N v1 v2 from by kernel_rfl).trans (by rfl)
noncomputable def gogeom_NewMultiPointFlatOptionWithEnds_1_b_con (N : Nat) : Con2 := ⟨98, [.box [.k (.int .i64), .k (.int .i64), .row 44 .float, .k (.int .i64), .k (.list (.int .i64))], .box [.k (.list (.int .i64))]], [⟨[], [some (.box [.k (.int .i64), .k (.int .i64), .krow 1 44 .float, .k (.int .i64), .k (.list (.int .i64))]), some (.box [.k (.list (.int .i64))])]⟩], fun x => gogeom_NewMultiPointFlatOptionWithEnds_1_b N x.1 x.2.1⟩
theorem gogeom_NewMultiPointFlatOptionWithEnds_1_b_s (N : Nat) : (gogeom_NewMultiPointFlatOptionWithEnds_1_b_con N).Sound Try.prog [] :=
  Con2.sound_of (c := gogeom_NewMultiPointFlatOptionWithEnds_1_b_con N) (E := (gogeom_NewMultiPointFlatOptionWithEnds_1_b_E N)) (idle := []) Try.func98 (by kernel_rfl) (by kernel_rfl) ⟨allNil, allNil, rfl⟩ allNil (fun x y h => (gogeom_NewMultiPointFlatOptionWithEnds_1_b_t N x.1 x.2.1).trans h)
/-- pub-orthodrome/pub/gogeom.NewMultiPointFlat -/
noncomputable def gogeom_NewMultiPointFlat_E (N : Nat) : Env := ⟨Try.prog, N, [gogeom_Layout_Stride_con N], [(0, ⟨[], [], [], [], [], [0, 1, 2], [1000000, 1000001, 1000002, 1000003], none⟩), (1, ⟨[], [], [], [], [], [0, 1, 2], [1000000, 1000001, 1000002, 1000003], none⟩), (2, ⟨[], [], [], [], [], [0, 1, 2, 7], [12, 1000000, 1000001, 1000002, 1000003], none⟩), (3, ⟨[], [], [], [], [], [0, 1, 2, 7], [12, 1000000, 1000001, 1000002, 1000003], none⟩), (4, ⟨[], [], [], [], [], [1, 2, 7], [12, 1000000, 1000001, 1000002, 1000003], none⟩), (5, ⟨[], [], [], [], [], [1, 2, 7], [12, 1000000, 1000001, 1000002, 1000003], none⟩), (6, ⟨[], [], [], [(12, 4, (.int .i64)), (1000002, 0, (.int .i64))], [], [1, 7, 35, 36, 37], [12, 1000000, 1000001, 1000002], none⟩), (7, ⟨[], [], [], [], [], [1, 7, 35, 36, 37], [12, 1000000, 1000001, 1000002], none⟩), (8, ⟨[], [], [], [], [], [1, 7, 9, 35, 36, 37], [12, 1000000, 1000001, 1000002], none⟩), (9, ⟨[], [], [], [], [], [1, 7, 35, 36, 37], [12, 1000000, 1000001, 1000002], none⟩), (10, ⟨[], [], [], [], [], [1, 7], [12, 1000000, 1000001, 1000002], none⟩), (11, ⟨[], [], [], [], [], [1, 7, 61], [12, 1000000, 1000001, 1000002], some N⟩), (12, ⟨[], [], [], [], [], [1, 7, 10], [12, 1000000, 1000001, 1000002], none⟩), (13, ⟨[], [], [], [], [], [1, 7, 10, 69], [12, 1000000, 1000001, 1000002], none⟩), (14, ⟨[], [], [], [], [], [7, 10], [12, 1000000, 1000001, 1000002], some N⟩), (15, ⟨[], [], [], [], [], [7, 10], [12, 82, 1000000, 1000001, 1000002], none⟩), (16, ⟨[], [], [], [], [], [7, 86, 87], [12, 82, 1000000, 1000001, 1000002], none⟩), (17, ⟨[], [], [], [], [], [7, 86, 87], [12, 82, 1000000, 1000001, 1000002], none⟩), (18, ⟨[], [], [], [], [], [7, 11, 86, 87], [12, 82, 1000000, 1000001, 1000002], none⟩), (19, ⟨[], [], [], [], [], [7, 86, 87], [12, 82, 1000000, 1000001, 1000002], none⟩), (20, ⟨[], [], [], [], [], [7], [12, 82, 1000000, 1000001, 1000002], some N⟩)], kdL [(3, (.int .i64))], [gogeom_NewMultiPointFlatOptionWithEnds_1_b_con N], [], []⟩
def gogeom_NewMultiPointFlat_g4 (N : Nat) (v7 : Int) (v8 : Int) (v9 : Int) (v10 : (List Int)) (v11 : (List Nat)) (v12 : (List Int)) : Option (((Int × Int × (List Nat) × Int × (List Int) × Unit) × ((((List Int) × Unit) × Unit) × Unit) × Unit)) :=
  (some ((v7, v8, v11, v9, v10, ()), (((v12, ()), ()), ()), ()))
def gogeom_NewMultiPointFlat_j4 (N : Nat) (v7 : Int) (v8 : Int) (v9 : Int) (v10 : (List Int)) (v11 : (List Nat)) (v12 : (List Int)) : Option (((Int × Int × (List Nat) × Int × (List Int) × Unit) × ((((List Int) × Unit) × Unit) × Unit) × Unit)) :=
  gate N (gogeom_NewMultiPointFlat_g4 N v7 v8 v9 v10 v11 v12)
def gogeom_NewMultiPointFlat_g1 (N : Nat) (v7 : Int) (v8 : Int) (v9 : Int) (v10 : (List Int)) (v11 : (List Nat)) (v12 : (List Int)) (c4 : Int → Int → Int → (List Int) → (List Nat) → (List Int) → Option (((Int × Int × (List Nat) × Int × (List Int) × Unit) × ((((List Int) × Unit) × Unit) × Unit) × Unit))) : Option (((Int × Int × (List Nat) × Int × (List Int) × Unit) × ((((List Int) × Unit) × Unit) × Unit) × Unit)) :=
  (c4 v7 v8 v9 v10 v11 v12)
def gogeom_NewMultiPointFlat_j1 (N : Nat) (v7 : Int) (v8 : Int) (v9 : Int) (v10 : (List Int)) (v11 : (List Nat)) (v12 : (List Int)) : Option (((Int × Int × (List Nat) × Int × (List Int) × Unit) × ((((List Int) × Unit) × Unit) × Unit) × Unit)) :=
  gate N (gogeom_NewMultiPointFlat_g1 N v7 v8 v9 v10 v11 v12 (gogeom_NewMultiPointFlat_j4 N))
def gogeom_NewMultiPointFlat_g3 (N : Nat) (v14 : Int) (v7 : Int) (v8 : Int) (v9 : Int) (v11 : (List Nat)) (v12 : (List Int)) (r3 : Int → (List Int) → Option (((Int × Int × (List Nat) × Int × (List Int) × Unit) × ((((List Int) × Unit) × Unit) × Unit) × Unit))) (v17 : Int) (v18 : (List Int)) : Option (((Int × Int × (List Nat) × Int × (List Int) × Unit) × ((((List Int) × Unit) × Unit) × Unit) × Unit)) :=
  (bif (decide ((v17 : Int) < v14)) then ((chk v17 v18.length).bind fun v19 => ((r3 (IntKind.i64.wrap (v17 + 1)) (v18.set v19 (IntKind.i64.wrap ((IntKind.i64.wrap (v17 + 1)) * v8)))))) else (gate N (some ((v7, v8, v11, v9, v18, ()), (((v12, ()), ()), ()), ()))))
def gogeom_NewMultiPointFlat_l3 (N : Nat) : Nat → Int → Int → Int → Int → (List Nat) → (List Int) → Int → (List Int) → Option (((Int × Int × (List Nat) × Int × (List Int) × Unit) × ((((List Int) × Unit) × Unit) × Unit) × Unit))
  | 0, _, _, _, _, _, _, _, _ => none
  | n + 1, v14, v7, v8, v9, v11, v12, v17, v18 => gogeom_NewMultiPointFlat_g3 N v14 v7 v8 v9 v11 v12 (gogeom_NewMultiPointFlat_l3 N n v14 v7 v8 v9 v11 v12) v17 v18
def gogeom_NewMultiPointFlat_g2 (N : Nat) (v7 : Int) (v8 : Int) (v9 : Int) (v10 : (List Int)) (v11 : (List Nat)) (v12 : (List Int)) (c3 : Int → Int → Int → Int → (List Nat) → (List Int) → Int → (List Int) → Option (((Int × Int × (List Nat) × Int × (List Int) × Unit) × ((((List Int) × Unit) × Unit) × Unit) × Unit))) (v14 : Int) : Option (((Int × Int × (List Nat) × Int × (List Int) × Unit) × ((((List Int) × Unit) × Unit) × Unit) × Unit)) :=
  (mkn v14 v14 8).bind fun v15 => ((c3 v14 v7 v8 v9 v11 v12 0 (List.replicate v15 (0 : Int))))
def gogeom_NewMultiPointFlat_j2 (N : Nat) (v7 : Int) (v8 : Int) (v9 : Int) (v10 : (List Int)) (v11 : (List Nat)) (v12 : (List Int)) (v14 : Int) : Option (((Int × Int × (List Nat) × Int × (List Int) × Unit) × ((((List Int) × Unit) × Unit) × Unit) × Unit)) :=
  gate N (gogeom_NewMultiPointFlat_g2 N v7 v8 v9 v10 v11 v12 (gogeom_NewMultiPointFlat_l3 N N) v14)
def gogeom_NewMultiPointFlat_g0 (N : Nat) (c1 : Int → Int → Int → (List Int) → (List Nat) → (List Int) → Option (((Int × Int × (List Nat) × Int × (List Int) × Unit) × ((((List Int) × Unit) × Unit) × Unit) × Unit))) (c2 : Int → Int → Int → (List Int) → (List Nat) → (List Int) → Int → Option (((Int × Int × (List Nat) × Int × (List Int) × Unit) × ((((List Int) × Unit) × Unit) × Unit) × Unit))) (c4 : Int → Int → Int → (List Int) → (List Nat) → (List Int) → Option (((Int × Int × (List Nat) × Int × (List Int) × Unit) × ((((List Int) × Unit) × Unit) × Unit) × Unit))) (r0 : Int → Int → Int → Int → (List Int) → (List Nat) → (List Int) → Option (((Int × Int × (List Nat) × Int × (List Int) × Unit) × ((((List Int) × Unit) × Unit) × Unit) × Unit))) (v6 : Int) (v7 : Int) (v8 : Int) (v9 : Int) (v10 : (List Int)) (v11 : (List Nat)) (v12 : (List Int)) : Option (((Int × Int × (List Nat) × Int × (List Int) × Unit) × ((((List Int) × Unit) × Unit) × Unit) × Unit)) :=
  (bif (decide ((v6 : Int) < 1)) then (bif (decide (v6 = ((0 : Nat) : Int))) then ((gogeom_NewMultiPointFlatOptionWithEnds_1_b N (v7, v8, v11, v9, v10, ()) (v12, ())).bind fun v13 => ((r0 (IntKind.i64.wrap (v6 + 1)) v13.1.1 v13.1.2.1 v13.1.2.2.2.1 v13.1.2.2.2.2.1 v13.1.2.2.1 v13.2.1.1))) else none) else (bif Nat.ble 1 v10.length then (c1 v7 v8 v9 v10 v11 v12) else (agree (gate N (bif (decide (((v11.length : Int) : Int) > 0)) then (bif (decide ((v8 : Int) > 0)) then (if v8 = 0 then none else (c2 v7 v8 v9 v10 v11 v12 (IntKind.i64.wrap (Int.tdiv (v11.length : Int) v8)))) else (c2 v7 v8 v9 v10 v11 v12 0)) else (c4 v7 v8 v9 v10 v11 v12))) (c1 v7 v8 v9 v10 v11 v12))))
def gogeom_NewMultiPointFlat_l0 (N : Nat) : Nat → Int → Int → Int → Int → (List Int) → (List Nat) → (List Int) → Option (((Int × Int × (List Nat) × Int × (List Int) × Unit) × ((((List Int) × Unit) × Unit) × Unit) × Unit))
  | 0, _, _, _, _, _, _, _ => none
  | n + 1, v6, v7, v8, v9, v10, v11, v12 => gogeom_NewMultiPointFlat_g0 N (gogeom_NewMultiPointFlat_j1 N) (gogeom_NewMultiPointFlat_j2 N) (gogeom_NewMultiPointFlat_j4 N) (gogeom_NewMultiPointFlat_l0 N n) v6 v7 v8 v9 v10 v11 v12
def gogeom_NewMultiPointFlat_g (N : Nat) (v1 : Int) (v2 : (List Nat)) (v3 : ((((List Int) × Unit) × Unit) × Unit)) (c0 : Int → Int → Int → Int → (List Int) → (List Nat) → (List Int) → Option (((Int × Int × (List Nat) × Int × (List Int) × Unit) × ((((List Int) × Unit) × Unit) × Unit) × Unit))) : Option (((Int × Int × (List Nat) × Int × (List Int) × Unit) × ((((List Int) × Unit) × Unit) × Unit) × Unit)) :=
  ((gogeom_Layout_Stride N v1).bind fun v4 => ((c0 0 v1 v4 0 ([] : List Int) v2 v3.1.1.1)))
def gogeom_NewMultiPointFlat (N : Nat) (v1 : Int) (v2 : (List Nat)) (v3 : ((((List Int) × Unit) × Unit) × Unit)) : Option (((Int × Int × (List Nat) × Int × (List Int) × Unit) × ((((List Int) × Unit) × Unit) × Unit) × Unit)) :=
  gogeom_NewMultiPointFlat_g N v1 v2 v3 (gogeom_NewMultiPointFlat_l0 N N)
set_option maxRecDepth 100000
noncomputable def gogeom_NewMultiPointFlat_e4 (N : Nat) (v7 : Int) (v8 : Int) (v9 : Int) (v10 : (List Int)) (v11 : (List Nat)) (v12 : (List Int)) : Option (AltD [⟨[.box [.k (.int .i64), .k (.int .i64), .row 44 .float, .k (.int .i64), .k (.list (.int .i64))]], [none, none, some (.bsl [.fn 98 [.box [.k (.list (.int .i64))]]])]⟩]) :=
  gate N (evC (gogeom_NewMultiPointFlat_E N) (codeAt (bodyOf Try.f72) [1, 1, 1, 1, 1, 1, 1]) ⟨[(7, .ref 12 0)], [(12, .box [.pv (.int .i64) v7, .pv (.int .i64) v8, .own .float 1000000, .pv (.int .i64) v9, .pv (.list (.int .i64)) v10]), (82, .gone), (1000000, .arr 44 .float v11), (1000001, .box [.func 98 [.ref 1000002 0]]), (1000002, .box [.pv (.list (.int .i64)) v12])], []⟩ (kEnd2 (gogeom_NewMultiPointFlat_E N) [] Try.f72.results.toList [⟨[.box [.k (.int .i64), .k (.int .i64), .row 44 .float, .k (.int .i64), .k (.list (.int .i64))]], [none, none, some (.bsl [.fn 98 [.box [.k (.list (.int .i64))]]])]⟩] [.dead, .own .float 1000000, .bsl 1000001 1]))
noncomputable def gogeom_NewMultiPointFlat_e1 (N : Nat) (v7 : Int) (v8 : Int) (v9 : Int) (v10 : (List Int)) (v11 : (List Nat)) (v12 : (List Int)) : Option (AltD [⟨[.box [.k (.int .i64), .k (.int .i64), .row 44 .float, .k (.int .i64), .k (.list (.int .i64))]], [none, none, some (.bsl [.fn 98 [.box [.k (.list (.int .i64))]]])]⟩]) :=
  gate N (evC (gogeom_NewMultiPointFlat_E N) (codeAt (bodyOf Try.f72) [1, 1, 1, 1, 1, 1, 0, 1]) ⟨[(1, .own .float 1000000), (7, .ref 12 0), (61, .pv .bool false)], [(12, .box [.pv (.int .i64) v7, .pv (.int .i64) v8, .own .float 1000000, .pv (.int .i64) v9, .pv (.list (.int .i64)) v10]), (1000000, .arr 44 .float v11), (1000001, .box [.func 98 [.ref 1000002 0]]), (1000002, .box [.pv (.list (.int .i64)) v12])], []⟩ (kSeq (advOf (gogeom_NewMultiPointFlat_E N) (codeAt (bodyOf Try.f72) [1, 1, 1, 1, 1, 1, 1])) (evC (gogeom_NewMultiPointFlat_E N) (codeAt (bodyOf Try.f72) [1, 1, 1, 1, 1, 1, 1])) (kEnd2 (gogeom_NewMultiPointFlat_E N) [] Try.f72.results.toList [⟨[.box [.k (.int .i64), .k (.int .i64), .row 44 .float, .k (.int .i64), .k (.list (.int .i64))]], [none, none, some (.bsl [.fn 98 [.box [.k (.list (.int .i64))]]])]⟩] [.dead, .own .float 1000000, .bsl 1000001 1])))
noncomputable def gogeom_NewMultiPointFlat_e3 (N : Nat) (n : Nat) (v14 : Int) (v7 : Int) (v8 : Int) (v9 : Int) (v11 : (List Nat)) (v12 : (List Int)) (v17 : Int) (v18 : (List Int)) : Option (AltD [⟨[.box [.k (.int .i64), .k (.int .i64), .row 44 .float, .k (.int .i64), .k (.list (.int .i64))]], [none, none, some (.bsl [.fn 98 [.box [.k (.list (.int .i64))]]])]⟩]) :=
  loopN (advOf (gogeom_NewMultiPointFlat_E N) (codeAt (bodyOf Try.f72) [1, 1, 1, 1, 1, 1, 0, 1, 0, 1, 1, 1, 1, 0, 0])) (evC (gogeom_NewMultiPointFlat_E N) (codeAt (bodyOf Try.f72) [1, 1, 1, 1, 1, 1, 0, 1, 0, 1, 1, 1, 1, 0, 0])) n ⟨[(7, .ref 12 0), (86, .pv (.int .i64) v14), (87, .pv (.int .i64) v17)], [(12, .box [.pv (.int .i64) v7, .pv (.int .i64) v8, .own .float 1000000, .pv (.int .i64) v9, .own (.int .i64) 82]), (82, .arr 3 (.int .i64) v18), (1000000, .arr 44 .float v11), (1000001, .box [.func 98 [.ref 1000002 0]]), (1000002, .box [.pv (.list (.int .i64)) v12])], []⟩ (kBlock 2 (kSeq (advOf (gogeom_NewMultiPointFlat_E N) (codeAt (bodyOf Try.f72) [1, 1, 1, 1, 1, 1, 1])) (evC (gogeom_NewMultiPointFlat_E N) (codeAt (bodyOf Try.f72) [1, 1, 1, 1, 1, 1, 1])) (kEnd2 (gogeom_NewMultiPointFlat_E N) [] Try.f72.results.toList [⟨[.box [.k (.int .i64), .k (.int .i64), .row 44 .float, .k (.int .i64), .k (.list (.int .i64))]], [none, none, some (.bsl [.fn 98 [.box [.k (.list (.int .i64))]]])]⟩] [.dead, .own .float 1000000, .bsl 1000001 1])))
noncomputable def gogeom_NewMultiPointFlat_e2 (N : Nat) (v7 : Int) (v8 : Int) (v9 : Int) (v10 : (List Int)) (v11 : (List Nat)) (v12 : (List Int)) (v14 : Int) : Option (AltD [⟨[.box [.k (.int .i64), .k (.int .i64), .row 44 .float, .k (.int .i64), .k (.list (.int .i64))]], [none, none, some (.bsl [.fn 98 [.box [.k (.list (.int .i64))]]])]⟩]) :=
  gate N (evC (gogeom_NewMultiPointFlat_E N) (codeAt (bodyOf Try.f72) [1, 1, 1, 1, 1, 1, 0, 1, 0, 1, 1]) ⟨[(7, .ref 12 0), (10, .pv (.int .i64) v14)], [(12, .box [.pv (.int .i64) v7, .pv (.int .i64) v8, .own .float 1000000, .pv (.int .i64) v9, .pv (.list (.int .i64)) v10]), (1000000, .arr 44 .float v11), (1000001, .box [.func 98 [.ref 1000002 0]]), (1000002, .box [.pv (.list (.int .i64)) v12])], []⟩ (kSeq (advOf (gogeom_NewMultiPointFlat_E N) (codeAt (bodyOf Try.f72) [1, 1, 1, 1, 1, 1, 1])) (evC (gogeom_NewMultiPointFlat_E N) (codeAt (bodyOf Try.f72) [1, 1, 1, 1, 1, 1, 1])) (kEnd2 (gogeom_NewMultiPointFlat_E N) [] Try.f72.results.toList [⟨[.box [.k (.int .i64), .k (.int .i64), .row 44 .float, .k (.int .i64), .k (.list (.int .i64))]], [none, none, some (.bsl [.fn 98 [.box [.k (.list (.int .i64))]]])]⟩] [.dead, .own .float 1000000, .bsl 1000001 1])))
noncomputable def gogeom_NewMultiPointFlat_e0 (N : Nat) (n : Nat) (v6 : Int) (v7 : Int) (v8 : Int) (v9 : Int) (v10 : (List Int)) (v11 : (List Nat)) (v12 : (List Int)) : Option (AltD [⟨[.box [.k (.int .i64), .k (.int .i64), .row 44 .float, .k (.int .i64), .k (.list (.int .i64))]], [none, none, some (.bsl [.fn 98 [.box [.k (.list (.int .i64))]]])]⟩]) :=
  loopN (advOf (gogeom_NewMultiPointFlat_E N) (codeAt (bodyOf Try.f72) [1, 1, 1, 1, 1, 0, 1, 0, 0])) (evC (gogeom_NewMultiPointFlat_E N) (codeAt (bodyOf Try.f72) [1, 1, 1, 1, 1, 0, 1, 0, 0])) n ⟨[(1, .own .float 1000000), (7, .ref 12 0), (35, .bsl 1000001 1), (36, .pv (.int .i64) 1), (37, .pv (.int .i64) v6)], [(12, .box [.pv (.int .i64) v7, .pv (.int .i64) v8, .own .float 1000000, .pv (.int .i64) v9, .pv (.list (.int .i64)) v10]), (1000000, .arr 44 .float v11), (1000001, .box [.func 98 [.ref 1000002 0]]), (1000002, .box [.pv (.list (.int .i64)) v12])], []⟩ (kBlock 0 (kSeq (advOf (gogeom_NewMultiPointFlat_E N) (codeAt (bodyOf Try.f72) [1, 1, 1, 1, 1, 1])) (evC (gogeom_NewMultiPointFlat_E N) (codeAt (bodyOf Try.f72) [1, 1, 1, 1, 1, 1])) (kEnd2 (gogeom_NewMultiPointFlat_E N) [] Try.f72.results.toList [⟨[.box [.k (.int .i64), .k (.int .i64), .row 44 .float, .k (.int .i64), .k (.list (.int .i64))]], [none, none, some (.bsl [.fn 98 [.box [.k (.list (.int .i64))]]])]⟩] [.dead, .own .float 1000000, .bsl 1000001 1])))
theorem gogeom_NewMultiPointFlat_t4 (N : Nat) (v7 : Int) (v8 : Int) (v9 : Int) (v10 : (List Int)) (v11 : (List Nat)) (v12 : (List Int)) : gogeom_NewMultiPointFlat_e4 N v7 v8 v9 v10 v11 v12 = gogeom_NewMultiPointFlat_j4 N v7 v8 v9 v10 v11 v12 := by
  exact (congrArg (gate N) (show evC (gogeom_NewMultiPointFlat_E N) (codeAt (bodyOf Try.f72) [1, 1, 1, 1, 1, 1, 1]) ⟨[(7, .ref 12 0)], [(12, .box [.pv (.int .i64) v7, .pv (.int .i64) v8, .own .float 1000000, .pv (.int .i64) v9, .pv (.list (.int .i64)) v10]), (82, .gone), (1000000, .arr 44 .float v11), (1000001, .box [.func 98 [.ref 1000002 0]]), (1000002, .box [.pv (.list (.int .i64)) v12])], []⟩ (kEnd2 (gogeom_NewMultiPointFlat_E N) [] Try.f72.results.toList [⟨[.box [.k (.int .i64), .k (.int .i64), .row 44 .float, .k (.int .i64), .k (.list (.int .i64))]], [none, none, some (.bsl [.fn 98 [.box [.k (.list (.int .i64))]]])]⟩] [.dead, .own .float 1000000, .bsl 1000001 1]) = gogeom_NewMultiPointFlat_g4 N v7 v8 v9 v10 v11 v12 from by kernel_rfl)).trans (by rfl)
theorem gogeom_NewMultiPointFlat_t1 (N : Nat) (v7 : Int) (v8 : Int) (v9 : Int) (v10 : (List Int)) (v11 : (List Nat)) (v12 : (List Int)) : gogeom_NewMultiPointFlat_e1 N v7 v8 v9 v10 v11 v12 = gogeom_NewMultiPointFlat_j1 N v7 v8 v9 v10 v11 v12 := by
  have h4 : (gogeom_NewMultiPointFlat_e4 N) = (gogeom_NewMultiPointFlat_j4 N) := by funext v7 v8 v9 v10 v11 v12; exact gogeom_NewMultiPointFlat_t4 N v7 v8 v9 v10 v11 v12
  exact (congrArg (gate N) (show evC (gogeom_NewMultiPointFlat_E N) (codeAt (bodyOf Try.f72) [1, 1, 1, 1, 1, 1, 0, 1]) ⟨[(1, .own .float 1000000), (7, .ref 12 0), (61, .pv .bool false)], [(12, .box [.pv (.int .i64) v7, .pv (.int .i64) v8, .own .float 1000000, .pv (.int .i64) v9, .pv (.list (.int .i64)) v10]), (1000000, .arr 44 .float v11), (1000001, .box [.func 98 [.ref 1000002 0]]), (1000002, .box [.pv (.list (.int .i64)) v12])], []⟩ (kSeq (advOf (gogeom_NewMultiPointFlat_E N) (codeAt (bodyOf Try.f72) [1, 1, 1, 1, 1, 1, 1])) (evC (gogeom_NewMultiPointFlat_E N) (codeAt (bodyOf Try.f72) [1, 1, 1, 1, 1, 1, 1])) (kEnd2 (gogeom_NewMultiPointFlat_E N) [] Try.f72.results.toList [⟨[.box [.k (.int .i64), .k (.int .i64), .row 44 .float, .k (.int .i64), .k (.list (.int .i64))]], [none, none, some (.bsl [.fn 98 [.box [.k (.list (.int .i64))]]])]⟩] [.dead, .own .float 1000000, .bsl 1000001 1])) = gogeom_NewMultiPointFlat_g1 N v7 v8 v9 v10 v11 v12 (gogeom_NewMultiPointFlat_e4 N) from by kernel_rfl)).trans (by rw [h4]; rfl)
theorem gogeom_NewMultiPointFlat_t3 (N : Nat) : ∀ (n : Nat) (v14 : Int) (v7 : Int) (v8 : Int) (v9 : Int) (v11 : (List Nat)) (v12 : (List Int)) (v17 : Int) (v18 : (List Int)), gogeom_NewMultiPointFlat_e3 N n v14 v7 v8 v9 v11 v12 v17 v18 = gogeom_NewMultiPointFlat_l3 N n v14 v7 v8 v9 v11 v12 v17 v18
  | 0, _, _, _, _, _, _, _, _ => rfl
  | n + 1, v14, v7, v8, v9, v11, v12, v17, v18 => by
    have h : gogeom_NewMultiPointFlat_e3 N n v14 v7 v8 v9 v11 v12 = gogeom_NewMultiPointFlat_l3 N n v14 v7 v8 v9 v11 v12 := by funext v17 v18; exact gogeom_NewMultiPointFlat_t3 N n v14 v7 v8 v9 v11 v12 v17 v18
    exact (show gogeom_NewMultiPointFlat_e3 N (n + 1) v14 v7 v8 v9 v11 v12 v17 v18 = gogeom_NewMultiPointFlat_g3 N v14 v7 v8 v9 v11 v12 (gogeom_NewMultiPointFlat_e3 N n v14 v7 v8 v9 v11 v12) v17 v18 from by kernel_rfl).trans (by rw [h]; rfl)
theorem gogeom_NewMultiPointFlat_t2 (N : Nat) (v7 : Int) (v8 : Int) (v9 : Int) (v10 : (List Int)) (v11 : (List Nat)) (v12 : (List Int)) (v14 : Int) : gogeom_NewMultiPointFlat_e2 N v7 v8 v9 v10 v11 v12 v14 = gogeom_NewMultiPointFlat_j2 N v7 v8 v9 v10 v11 v12 v14 := by
  have h3 : (gogeom_NewMultiPointFlat_e3 N N) = (gogeom_NewMultiPointFlat_l3 N N) := by funext v14 v7 v8 v9 v11 v12 v17 v18; exact gogeom_NewMultiPointFlat_t3 N N v14 v7 v8 v9 v11 v12 v17 v18
  exact (congrArg (gate N) (show evC (gogeom_NewMultiPointFlat_E N) (codeAt (bodyOf Try.f72) [1, 1, 1, 1, 1, 1, 0, 1, 0, 1, 1]) ⟨[(7, .ref 12 0), (10, .pv (.int .i64) v14)], [(12, .box [.pv (.int .i64) v7, .pv (.int .i64) v8, .own .float 1000000, .pv (.int .i64) v9, .pv (.list (.int .i64)) v10]), (1000000, .arr 44 .float v11), (1000001, .box [.func 98 [.ref 1000002 0]]), (1000002, .box [.pv (.list (.int .i64)) v12])], []⟩ (kSeq (advOf (gogeom_NewMultiPointFlat_E N) (codeAt (bodyOf Try.f72) [1, 1, 1, 1, 1, 1, 1])) (evC (gogeom_NewMultiPointFlat_E N) (codeAt (bodyOf Try.f72) [1, 1, 1, 1, 1, 1, 1])) (kEnd2 (gogeom_NewMultiPointFlat_E N) [] Try.f72.results.toList [⟨[.box [.k (.int .i64), .k (.int .i64), .row 44 .float, .k (.int .i64), .k (.list (.int .i64))]], [none, none, some (.bsl [.fn 98 [.box [.k (.list (.int .i64))]]])]⟩] [.dead, .own .float 1000000, .bsl 1000001 1])) = gogeom_NewMultiPointFlat_g2 N v7 v8 v9 v10 v11 v12 (gogeom_NewMultiPointFlat_e3 N N) v14 from by kernel_rfl)).trans (by rw [h3]; rfl)
theorem gogeom_NewMultiPointFlat_t0 (N : Nat) : ∀ (n : Nat) (v6 : Int) (v7 : Int) (v8 : Int) (v9 : Int) (v10 : (List Int)) (v11 : (List Nat)) (v12 : (List Int)), gogeom_NewMultiPointFlat_e0 N n v6 v7 v8 v9 v10 v11 v12 = gogeom_NewMultiPointFlat_l0 N n v6 v7 v8 v9 v10 v11 v12
  | 0, _, _, _, _, _, _, _ => rfl
  | n + 1, v6, v7, v8, v9, v10, v11, v12 => by
    have h1 : (gogeom_NewMultiPointFlat_e1 N) = (gogeom_NewMultiPointFlat_j1 N) := by funext v7 v8 v9 v10 v11 v12; exact gogeom_NewMultiPointFlat_t1 N v7 v8 v9 v10 v11 v12
    have h2 : (gogeom_NewMultiPointFlat_e2 N) = (gogeom_NewMultiPointFlat_j2 N) := by funext v7 v8 v9 v10 v11 v12 v14; exact gogeom_NewMultiPointFlat_t2 N v7 v8 v9 v10 v11 v12 v14
    have h4 : (gogeom_NewMultiPointFlat_e4 N) = (gogeom_NewMultiPointFlat_j4 N) := by funext v7 v8 v9 v10 v11 v12; exact gogeom_NewMultiPointFlat_t4 N v7 v8 v9 v10 v11 v12
    have h : gogeom_NewMultiPointFlat_e0 N n = gogeom_NewMultiPointFlat_l0 N n := by funext v6 v7 v8 v9 v10 v11 v12; exact gogeom_NewMultiPointFlat_t0 N n v6 v7 v8 v9 v10 v11 v12
    exact (show gogeom_NewMultiPointFlat_e0 N (n + 1) v6 v7 v8 v9 v10 v11 v12 = gogeom_NewMultiPointFlat_g0 N (gogeom_NewMultiPointFlat_e1 N) (gogeom_NewMultiPointFlat_e2 N) (gogeom_NewMultiPointFlat_e4 N) (gogeom_NewMultiPointFlat_e0 N n) v6 v7 v8 v9 v10 v11 v12 from by kernel_rfl).trans (by rw [h1, h2, h4, h]; rfl)
theorem gogeom_NewMultiPointFlat_t (N : Nat) (v1 : Int) (v2 : (List Nat)) (v3 : ((((List Int) × Unit) × Unit) × Unit)) : evF2 (gogeom_NewMultiPointFlat_E N) [] Try.f72 [.k (.int .i64), .row 44 .float, .bsl [.fn 98 [.box [.row 3 (.int .i64)]]]] [⟨[.box [.k (.int .i64), .k (.int .i64), .row 44 .float, .k (.int .i64), .k (.list (.int .i64))]], [none, none, some (.bsl [.fn 98 [.box [.k (.list (.int .i64))]]])]⟩] (v1, v2, v3, ()) = gogeom_NewMultiPointFlat N v1 v2 v3 := by
  have h0 : (gogeom_NewMultiPointFlat_e0 N N) = (gogeom_NewMultiPointFlat_l0 N N) := by funext v6 v7 v8 v9 v10 v11 v12; exact gogeom_NewMultiPointFlat_t0 N N v6 v7 v8 v9 v10 v11 v12
  exact (show evF2 (gogeom_NewMultiPointFlat_E N) [] Try.f72 [.k (.int .i64), .row 44 .float, .bsl [.fn 98 [.box [.row 3 (.int .i64)]]]] [⟨[.box [.k (.int .i64), .k (.int .i64), .row 44 .float, .k (.int .i64), .k (.list (.int .i64))]], [none, none, some (.bsl [.fn 98 [.box [.k (.list (.int .i64))]]])]⟩] (v1, v2, v3, ()) = gogeom_NewMultiPointFlat_g N v1 v2 v3 (gogeom_NewMultiPointFlat_e0 N N) from by kernel_rfl).trans (by rw [h0]; rfl)
noncomputable def gogeom_NewMultiPointFlat_con (N : Nat) : Con2 := ⟨72, [.k (.int .i64), .row 44 .float, .bsl [.fn 98 [.box [.row 3 (.int .i64)]]]], [⟨[.box [.k (.int .i64), .k (.int .i64), .row 44 .float, .k (.int .i64), .k (.list (.int .i64))]], [none, none, some (.bsl [.fn 98 [.box [.k (.list (.int .i64))]]])]⟩], fun x => gogeom_NewMultiPointFlat N x.1 x.2.1 x.2.2.1⟩
theorem gogeom_NewMultiPointFlat_s (N : Nat) : (gogeom_NewMultiPointFlat_con N).Sound Try.prog [] :=
  Con2.sound_of (c := gogeom_NewMultiPointFlat_con N) (E := (gogeom_NewMultiPointFlat_E N)) (idle := []) Try.func72 (by kernel_rfl) (by kernel_rfl) ⟨(allCons (gogeom_Layout_Stride_s N) allNil), (allCons (gogeom_NewMultiPointFlatOptionWithEnds_1_b_s N) allNil), rfl⟩ allNil (fun x y h => (gogeom_NewMultiPointFlat_t N x.1 x.2.1 x.2.2.1).trans h)
/-- (*pub-orthodrome/pub/gogeom.MultiPoint).SetSRID -/
noncomputable def gogeom_MultiPoint_SetSRID_E (N : Nat) : Env := ⟨Try.prog, N, [], [(0, ⟨[], [], [], [], [], [0, 1], [1000000, 1000001], none⟩), (1, ⟨[], [], [], [], [], [0, 1], [1000000, 1000001], none⟩), (2, ⟨[], [], [], [], [], [0], [1000000, 1000001], none⟩)], kdL [], [], [], []⟩
def gogeom_MultiPoint_SetSRID_g (N : Nat) (v1 : (Int × Int × (List Nat) × Int × (List Int) × Unit)) (v2 : Int) : Option ((Unit × (Int × Int × (List Nat) × Int × (List Int) × Unit) × Unit)) :=
  (some ((), (v1.1, v1.2.1, v1.2.2.1, v2, v1.2.2.2.2.1, ()), ()))
def gogeom_MultiPoint_SetSRID (N : Nat) (v1 : (Int × Int × (List Nat) × Int × (List Int) × Unit)) (v2 : Int) : Option ((Unit × (Int × Int × (List Nat) × Int × (List Int) × Unit) × Unit)) :=
  gogeom_MultiPoint_SetSRID_g N v1 v2
set_option maxRecDepth 100000
theorem gogeom_MultiPoint_SetSRID_t (N : Nat) (v1 : (Int × Int × (List Nat) × Int × (List Int) × Unit)) (v2 : Int) : evF2 (gogeom_MultiPoint_SetSRID_E N) [] Try.f74 [.box [.k (.int .i64), .k (.int .i64), .row 44 .float, .k (.int .i64), .k (.list (.int .i64))], .k (.int .i64)] [⟨[.par 0], [some (.box [.k (.int .i64), .k (.int .i64), .row 44 .float, .k (.int .i64), .k (.list (.int .i64))]), none]⟩] (v1, v2, ()) = gogeom_MultiPoint_SetSRID N v1 v2 := by
  exact (show evF2 (gogeom_MultiPoint_SetSRID_E N) [] Try.f74 [.box [.k (.int .i64), .k (.int .i64), .row 44 .float, .k (.int .i64), .k (.list (.int .i64))], .k (.int .i64)] [⟨[.par 0], [some (.box [.k (.int .i64), .k (.int .i64), .row 44 .float, .k (.int .i64), .k (.list (.int .i64))]), none]⟩] (v1, v2, ()) = gogeom_MultiPoint_SetSRID_g N v1 v2 from by kernel_rfl).trans (by rfl)
noncomputable def gogeom_MultiPoint_SetSRID_con (N : Nat) : Con2 := ⟨74, [.box [.k (.int .i64), .k (.int .i64), .row 44 .float, .k (.int .i64), .k (.list (.int .i64))], .k (.int .i64)], [⟨[.par 0], [some (.box [.k (.int .i64), .k (.int .i64), .row 44 .float, .k (.int .i64), .k (.list (.int .i64))]), none]⟩], fun x => gogeom_MultiPoint_SetSRID N x.1 x.2.1⟩
theorem gogeom_MultiPoint_SetSRID_s (N : Nat) : (gogeom_MultiPoint_SetSRID_con N).Sound Try.prog [] :=
  Con2.sound_of (c := gogeom_MultiPoint_SetSRID_con N) (E := (gogeom_MultiPoint_SetSRID_E N)) (idle := []) Try.func74 (by kernel_rfl) (by kernel_rfl) ⟨allNil, allNil, rfl⟩ allNil (fun x y h => (gogeom_MultiPoint_SetSRID_t N x.1 x.2.1).trans h)
/-- pub-orthodrome/pub/gogeom.NewMultiLineStringFlat -/
noncomputable def gogeom_NewMultiLineStringFlat_b_E (N : Nat) : Env := ⟨Try.prog, N, [gogeom_Layout_Stride_con N], [(0, ⟨[], [], [], [], [], [0, 1, 2], [1000000, 1000001], none⟩), (1, ⟨[], [], [], [], [], [0, 1, 2], [1000000, 1000001], none⟩), (2, ⟨[], [], [], [], [], [0, 1, 2, 7], [8, 1000000, 1000001], none⟩), (3, ⟨[], [], [], [], [], [0, 1, 2, 7], [8, 1000000, 1000001], none⟩), (4, ⟨[], [], [], [], [], [1, 2, 7], [8, 1000000, 1000001], none⟩), (5, ⟨[], [], [], [], [], [2, 7], [8, 1000000, 1000001], none⟩), (6, ⟨[], [], [], [], [], [7], [8, 1000000, 1000001], none⟩)], kdL [], [], [], []⟩
def gogeom_NewMultiLineStringFlat_b_g (N : Nat) (v1 : Int) (v2 : (List Nat)) (v3 : (List Int)) : Option (((Int × Int × (List Nat) × Int × (List Int) × Unit) × Unit)) :=
  ((gogeom_Layout_Stride N v1).bind fun v4 => (some ((v1, v4, v2, 0, v3, ()), ())))
def gogeom_NewMultiLineStringFlat_b (N : Nat) (v1 : Int) (v2 : (List Nat)) (v3 : (List Int)) : Option (((Int × Int × (List Nat) × Int × (List Int) × Unit) × Unit)) :=
  gogeom_NewMultiLineStringFlat_b_g N v1 v2 v3
set_option maxRecDepth 100000
theorem gogeom_NewMultiLineStringFlat_b_t (N : Nat) (v1 : Int) (v2 : (List Nat)) (v3 : (List Int)) : evF2 (gogeom_NewMultiLineStringFlat_b_E N) [] Try.f75 [.k (.int .i64), .row 44 .float, .row 3 (.int .i64)] [⟨[.box [.k (.int .i64), .k (.int .i64), .row 44 .float, .k (.int .i64), .row 3 (.int .i64)]], [none, none, none]⟩] (v1, v2, v3, ()) = gogeom_NewMultiLineStringFlat_b N v1 v2 v3 := by
  exact (show evF2 (gogeom_NewMultiLineStringFlat_b_E N) [] Try.f75 [.k (.int .i64), .row 44 .float, .row 3 (.int .i64)] [⟨[.box [.k (.int .i64), .k (.int .i64), .row 44 .float, .k (.int .i64), .row 3 (.int .i64)]], [none, none, none]⟩] (v1, v2, v3, ()) = gogeom_NewMultiLineStringFlat_b_g N v1 v2 v3 from by kernel_rfl).trans (by rfl)
noncomputable def gogeom_NewMultiLineStringFlat_b_con (N : Nat) : Con2 := ⟨75, [.k (.int .i64), .row 44 .float, .row 3 (.int .i64)], [⟨[.box [.k (.int .i64), .k (.int .i64), .row 44 .float, .k (.int .i64), .row 3 (.int .i64)]], [none, none, none]⟩], fun x => gogeom_NewMultiLineStringFlat_b N x.1 x.2.1 x.2.2.1⟩
theorem gogeom_NewMultiLineStringFlat_b_s (N : Nat) : (gogeom_NewMultiLineStringFlat_b_con N).Sound Try.prog [] :=
  Con2.sound_of (c := gogeom_NewMultiLineStringFlat_b_con N) (E := (gogeom_NewMultiLineStringFlat_b_E N)) (idle := []) Try.func75 (by kernel_rfl) (by kernel_rfl) ⟨(allCons (gogeom_Layout_Stride_s N) allNil), allNil, rfl⟩ allNil (fun x y h => (gogeom_NewMultiLineStringFlat_b_t N x.1 x.2.1 x.2.2.1).trans h)
/-- (*pub-orthodrome/pub/gogeom.MultiLineString).SetSRID -/
noncomputable def gogeom_MultiLineString_SetSRID_E (N : Nat) : Env := ⟨Try.prog, N, [], [(0, ⟨[], [], [], [], [], [0, 1], [1000000, 1000001, 1000002], none⟩), (1, ⟨[], [], [], [], [], [0, 1], [1000000, 1000001, 1000002], none⟩), (2, ⟨[], [], [], [], [], [0], [1000000, 1000001, 1000002], none⟩)], kdL [], [], [], []⟩
def gogeom_MultiLineString_SetSRID_g (N : Nat) (v1 : (Int × Int × (List Nat) × Int × (List Int) × Unit)) (v2 : Int) : Option ((Unit × (Int × Int × (List Nat) × Int × (List Int) × Unit) × Unit)) :=
  (some ((), (v1.1, v1.2.1, v1.2.2.1, v2, v1.2.2.2.2.1, ()), ()))
def gogeom_MultiLineString_SetSRID (N : Nat) (v1 : (Int × Int × (List Nat) × Int × (List Int) × Unit)) (v2 : Int) : Option ((Unit × (Int × Int × (List Nat) × Int × (List Int) × Unit) × Unit)) :=
  gogeom_MultiLineString_SetSRID_g N v1 v2
set_option maxRecDepth 100000
theorem gogeom_MultiLineString_SetSRID_t (N : Nat) (v1 : (Int × Int × (List Nat) × Int × (List Int) × Unit)) (v2 : Int) : evF2 (gogeom_MultiLineString_SetSRID_E N) [] Try.f76 [.box [.k (.int .i64), .k (.int .i64), .row 44 .float, .k (.int .i64), .row 3 (.int .i64)], .k (.int .i64)] [⟨[.par 0], [some (.box [.k (.int .i64), .k (.int .i64), .row 44 .float, .k (.int .i64), .row 3 (.int .i64)]), none]⟩] (v1, v2, ()) = gogeom_MultiLineString_SetSRID N v1 v2 := by
  exact (show evF2 (gogeom_MultiLineString_SetSRID_E N) [] Try.f76 [.box [.k (.int .i64), .k (.int .i64), .row 44 .float, .k (.int .i64), .row 3 (.int .i64)], .k (.int .i64)] [⟨[.par 0], [some (.box [.k (.int .i64), .k (.int .i64), .row 44 .float, .k (.int .i64), .row 3 (.int .i64)]), none]⟩] (v1, v2, ()) = gogeom_MultiLineString_SetSRID_g N v1 v2 from by kernel_rfl).trans (by rfl)
noncomputable def gogeom_MultiLineString_SetSRID_con (N : Nat) : Con2 := ⟨76, [.box [.k (.int .i64), .k (.int .i64), .row 44 .float, .k (.int .i64), .row 3 (.int .i64)], .k (.int .i64)], [⟨[.par 0], [some (.box [.k (.int .i64), .k (.int .i64), .row 44 .float, .k (.int .i64), .row 3 (.int .i64)]), none]⟩], fun x => gogeom_MultiLineString_SetSRID N x.1 x.2.1⟩
theorem gogeom_MultiLineString_SetSRID_s (N : Nat) : (gogeom_MultiLineString_SetSRID_con N).Sound Try.prog [] :=
  Con2.sound_of (c := gogeom_MultiLineString_SetSRID_con N) (E := (gogeom_MultiLineString_SetSRID_E N)) (idle := []) Try.func76 (by kernel_rfl) (by kernel_rfl) ⟨allNil, allNil, rfl⟩ allNil (fun x y h => (gogeom_MultiLineString_SetSRID_t N x.1 x.2.1).trans h)
/-- pub-orthodrome/impl.intss -/
noncomputable def impl_intss_E (N : Nat) : Env := ⟨Try.prog, N, [], [(0, ⟨[], [], [], [], [], [0], [], none⟩), (1, ⟨[], [], [], [], [], [0], [], none⟩), (2, ⟨[], [], [], [], [], [0, 3], [], none⟩), (3, ⟨[(3, 25, (.list (.int .i64)), 90300)], [], [], [], [], [3, 6, 7, 8], [90300], none⟩), (4, ⟨[], [], [], [], [], [3, 6, 7, 8], [90300], none⟩), (5, ⟨[], [], [], [], [], [3, 5, 6, 7, 8], [90300], none⟩), (6, ⟨[], [], [], [], [], [3, 6, 7, 8], [16], none⟩), (7, ⟨[], [], [], [], [], [3], [90300], none⟩)], kdL [(25, (.list (.int .i64)))], [impl_ints_con N], [], []⟩
def impl_intss_g0 (N : Nat) (v1 : (List (List Int))) (r0 : Int → (List (List Int)) → Option (((List (List Int)) × Unit))) (v4 : Int) (v5 : (List (List Int))) : Option (((List (List Int)) × Unit)) :=
  (bif (decide ((v4 : Int) < (v1.length : Int))) then ((nth v1 v4).bind fun v6 => ((impl_ints N v6).bind fun v7 => (lim ((v5.length + ([v7.1] : List (List Int)).length) * 24)).bind fun _ => ((r0 (IntKind.i64.wrap (v4 + 1)) (v5 ++ ([v7.1] : List (List Int))))))) else (some (v5, ())))
def impl_intss_l0 (N : Nat) : Nat → (List (List Int)) → Int → (List (List Int)) → Option (((List (List Int)) × Unit))
  | 0, _, _, _ => none
  | n + 1, v1, v4, v5 => impl_intss_g0 N v1 (impl_intss_l0 N n v1) v4 v5
def impl_intss_g (N : Nat) (v1 : (List (List Int))) (c0 : (List (List Int)) → Int → (List (List Int)) → Option (((List (List Int)) × Unit))) : Option (((List (List Int)) × Unit)) :=
  ((c0 v1 0 ([] : List (List Int))))
def impl_intss (N : Nat) (v1 : (List (List Int))) : Option (((List (List Int)) × Unit)) :=
  impl_intss_g N v1 (impl_intss_l0 N N)
set_option maxRecDepth 100000
noncomputable def impl_intss_e0 (N : Nat) (n : Nat) (v1 : (List (List Int))) (v4 : Int) (v5 : (List (List Int))) : Option (AltD [⟨[.row 25 (.list (.int .i64))], [none]⟩]) :=
  loopN (advOf (impl_intss_E N) (codeAt (bodyOf Try.f78) [1, 1, 0, 1, 0, 0])) (evC (impl_intss_E N) (codeAt (bodyOf Try.f78) [1, 1, 0, 1, 0, 0])) n ⟨[(3, .own (.list (.int .i64)) 90300), (6, .pv (.list (.list (.int .i64))) v1), (7, .pv (.int .i64) (v1.length : Int)), (8, .pv (.int .i64) v4)], [(90300, .arr 25 (.list (.int .i64)) v5)], []⟩ (kBlock 0 (kSeq (advOf (impl_intss_E N) (codeAt (bodyOf Try.f78) [1, 1, 1])) (evC (impl_intss_E N) (codeAt (bodyOf Try.f78) [1, 1, 1])) (kEnd2 (impl_intss_E N) [] Try.f78.results.toList [⟨[.row 25 (.list (.int .i64))], [none]⟩] [.dead])))
theorem impl_intss_t0 (N : Nat) : ∀ (n : Nat) (v1 : (List (List Int))) (v4 : Int) (v5 : (List (List Int))), impl_intss_e0 N n v1 v4 v5 = impl_intss_l0 N n v1 v4 v5
  | 0, _, _, _ => rfl
  | n + 1, v1, v4, v5 => by
    have h : impl_intss_e0 N n v1 = impl_intss_l0 N n v1 := by funext v4 v5; exact impl_intss_t0 N n v1 v4 v5
    exact (show impl_intss_e0 N (n + 1) v1 v4 v5 = impl_intss_g0 N v1 (impl_intss_e0 N n v1) v4 v5 from by kernel_rfl).trans (by rw [h]; rfl)
theorem impl_intss_t (N : Nat) (v1 : (List (List Int))) : evF2 (impl_intss_E N) [] Try.f78 [.k (.list (.list (.int .i64)))] [⟨[.row 25 (.list (.int .i64))], [none]⟩] (v1, ()) = impl_intss N v1 := by
  have h0 : (impl_intss_e0 N N) = (impl_intss_l0 N N) := by funext v1 v4 v5; exact impl_intss_t0 N N v1 v4 v5
  exact (show evF2 (impl_intss_E N) [] Try.f78 [.k (.list (.list (.int .i64)))] [⟨[.row 25 (.list (.int .i64))], [none]⟩] (v1, ()) = impl_intss_g N v1 (impl_intss_e0 N N) from by kernel_rfl).trans (by rw [h0]; rfl)
noncomputable def impl_intss_con (N : Nat) : Con2 := ⟨78, [.k (.list (.list (.int .i64)))], [⟨[.row 25 (.list (.int .i64))], [none]⟩], fun x => impl_intss N x.1⟩
theorem impl_intss_s (N : Nat) : (impl_intss_con N).Sound Try.prog [] :=
  Con2.sound_of (c := impl_intss_con N) (E := (impl_intss_E N)) (idle := []) Try.func78 (by kernel_rfl) (by kernel_rfl) ⟨allNil, (allCons (impl_ints_s N) allNil), rfl⟩ allNil (fun x y h => (impl_intss_t N x.1).trans h)
/-- pub-orthodrome/pub/gogeom.NewMultiPolygonFlat -/
noncomputable def gogeom_NewMultiPolygonFlat_E (N : Nat) : Env := ⟨Try.prog, N, [gogeom_Layout_Stride_con N], [(0, ⟨[], [], [], [], [], [0, 1, 2], [1000000, 1000001], none⟩), (1, ⟨[], [], [], [], [], [0, 1, 2], [1000000, 1000001], none⟩), (2, ⟨[], [], [], [], [], [0, 1, 2, 7], [8, 1000000, 1000001], none⟩), (3, ⟨[], [], [], [], [], [0, 1, 2, 7], [8, 1000000, 1000001], none⟩), (4, ⟨[], [], [], [], [], [1, 2, 7], [8, 1000000, 1000001], none⟩), (5, ⟨[], [], [], [], [], [2, 7], [8, 1000000, 1000001], none⟩), (6, ⟨[], [], [], [], [], [7], [8, 1000000, 1000001], none⟩)], kdL [], [], [], []⟩
def gogeom_NewMultiPolygonFlat_g (N : Nat) (v1 : Int) (v2 : (List Nat)) (v3 : (List (List Int))) : Option (((Int × Int × (List Nat) × Int × (List (List Int)) × Unit) × Unit)) :=
  ((gogeom_Layout_Stride N v1).bind fun v4 => (some ((v1, v4, v2, 0, v3, ()), ())))
def gogeom_NewMultiPolygonFlat (N : Nat) (v1 : Int) (v2 : (List Nat)) (v3 : (List (List Int))) : Option (((Int × Int × (List Nat) × Int × (List (List Int)) × Unit) × Unit)) :=
  gogeom_NewMultiPolygonFlat_g N v1 v2 v3
set_option maxRecDepth 100000
theorem gogeom_NewMultiPolygonFlat_t (N : Nat) (v1 : Int) (v2 : (List Nat)) (v3 : (List (List Int))) : evF2 (gogeom_NewMultiPolygonFlat_E N) [] Try.f77 [.k (.int .i64), .row 44 .float, .row 25 (.list (.int .i64))] [⟨[.box [.k (.int .i64), .k (.int .i64), .row 44 .float, .k (.int .i64), .row 25 (.list (.int .i64))]], [none, none, none]⟩] (v1, v2, v3, ()) = gogeom_NewMultiPolygonFlat N v1 v2 v3 := by
  exact (show evF2 (gogeom_NewMultiPolygonFlat_E N) [] Try.f77 [.k (.int .i64), .row 44 .float, .row 25 (.list (.int .i64))] [⟨[.box [.k (.int .i64), .k (.int .i64), .row 44 .float, .k (.int .i64), .row 25 (.list (.int .i64))]], [none, none, none]⟩] (v1, v2, v3, ()) = gogeom_NewMultiPolygonFlat_g N v1 v2 v3 from by kernel_rfl).trans (by rfl)
noncomputable def gogeom_NewMultiPolygonFlat_con (N : Nat) : Con2 := ⟨77, [.k (.int .i64), .row 44 .float, .row 25 (.list (.int .i64))], [⟨[.box [.k (.int .i64), .k (.int .i64), .row 44 .float, .k (.int .i64), .row 25 (.list (.int .i64))]], [none, none, none]⟩], fun x => gogeom_NewMultiPolygonFlat N x.1 x.2.1 x.2.2.1⟩
theorem gogeom_NewMultiPolygonFlat_s (N : Nat) : (gogeom_NewMultiPolygonFlat_con N).Sound Try.prog [] :=
  Con2.sound_of (c := gogeom_NewMultiPolygonFlat_con N) (E := (gogeom_NewMultiPolygonFlat_E N)) (idle := []) Try.func77 (by kernel_rfl) (by kernel_rfl) ⟨(allCons (gogeom_Layout_Stride_s N) allNil), allNil, rfl⟩ allNil (fun x y h => (gogeom_NewMultiPolygonFlat_t N x.1 x.2.1 x.2.2.1).trans h)
/-- (*pub-orthodrome/pub/gogeom.MultiPolygon).SetSRID -/
noncomputable def gogeom_MultiPolygon_SetSRID_E (N : Nat) : Env := ⟨Try.prog, N, [], [(0, ⟨[], [], [], [], [], [0, 1], [1000000, 1000001, 1000002], none⟩), (1, ⟨[], [], [], [], [], [0, 1], [1000000, 1000001, 1000002], none⟩), (2, ⟨[], [], [], [], [], [0], [1000000, 1000001, 1000002], none⟩)], kdL [], [], [], []⟩
def gogeom_MultiPolygon_SetSRID_g (N : Nat) (v1 : (Int × Int × (List Nat) × Int × (List (List Int)) × Unit)) (v2 : Int) : Option ((Unit × (Int × Int × (List Nat) × Int × (List (List Int)) × Unit) × Unit)) :=
  (some ((), (v1.1, v1.2.1, v1.2.2.1, v2, v1.2.2.2.2.1, ()), ()))
def gogeom_MultiPolygon_SetSRID (N : Nat) (v1 : (Int × Int × (List Nat) × Int × (List (List Int)) × Unit)) (v2 : Int) : Option ((Unit × (Int × Int × (List Nat) × Int × (List (List Int)) × Unit) × Unit)) :=
  gogeom_MultiPolygon_SetSRID_g N v1 v2
set_option maxRecDepth 100000
theorem gogeom_MultiPolygon_SetSRID_t (N : Nat) (v1 : (Int × Int × (List Nat) × Int × (List (List Int)) × Unit)) (v2 : Int) : evF2 (gogeom_MultiPolygon_SetSRID_E N) [] Try.f79 [.box [.k (.int .i64), .k (.int .i64), .row 44 .float, .k (.int .i64), .row 25 (.list (.int .i64))], .k (.int .i64)] [⟨[.par 0], [some (.box [.k (.int .i64), .k (.int .i64), .row 44 .float, .k (.int .i64), .row 25 (.list (.int .i64))]), none]⟩] (v1, v2, ()) = gogeom_MultiPolygon_SetSRID N v1 v2 := by
  exact (show evF2 (gogeom_MultiPolygon_SetSRID_E N) [] Try.f79 [.box [.k (.int .i64), .k (.int .i64), .row 44 .float, .k (.int .i64), .row 25 (.list (.int .i64))], .k (.int .i64)] [⟨[.par 0], [some (.box [.k (.int .i64), .k (.int .i64), .row 44 .float, .k (.int .i64), .row 25 (.list (.int .i64))]), none]⟩] (v1, v2, ()) = gogeom_MultiPolygon_SetSRID_g N v1 v2 from by kernel_rfl).trans (by rfl)
noncomputable def gogeom_MultiPolygon_SetSRID_con (N : Nat) : Con2 := ⟨79, [.box [.k (.int .i64), .k (.int .i64), .row 44 .float, .k (.int .i64), .row 25 (.list (.int .i64))], .k (.int .i64)], [⟨[.par 0], [some (.box [.k (.int .i64), .k (.int .i64), .row 44 .float, .k (.int .i64), .row 25 (.list (.int .i64))]), none]⟩], fun x => gogeom_MultiPolygon_SetSRID N x.1 x.2.1⟩
theorem gogeom_MultiPolygon_SetSRID_s (N : Nat) : (gogeom_MultiPolygon_SetSRID_con N).Sound Try.prog [] :=
  Con2.sound_of (c := gogeom_MultiPolygon_SetSRID_con N) (E := (gogeom_MultiPolygon_SetSRID_E N)) (idle := []) Try.func79 (by kernel_rfl) (by kernel_rfl) ⟨allNil, allNil, rfl⟩ allNil (fun x y h => (gogeom_MultiPolygon_SetSRID_t N x.1 x.2.1).trans h)
/-- pub-orthodrome/pub/gogeom.NewGeometryCollection -/
noncomputable def gogeom_NewGeometryCollection_E (N : Nat) : Env := ⟨Try.prog, N, [], [(0, ⟨[], [], [], [], [], [], [], none⟩), (1, ⟨[], [], [], [], [], [], [], none⟩)], kdL [], [], [], []⟩
def gogeom_NewGeometryCollection_g (N : Nat) : Option (((Int × Unit × Int × Unit) × Unit)) :=
  (some ((0, (), 0, ()), ()))
def gogeom_NewGeometryCollection (N : Nat) : Option (((Int × Unit × Int × Unit) × Unit)) :=
  gogeom_NewGeometryCollection_g N
set_option maxRecDepth 100000
theorem gogeom_NewGeometryCollection_t (N : Nat) : evF2 (gogeom_NewGeometryCollection_E N) [] Try.f80 [] [⟨[.box [.k (.int .i64), .snil, .k (.int .i64)]], []⟩] (()) = gogeom_NewGeometryCollection N := by
  exact (show evF2 (gogeom_NewGeometryCollection_E N) [] Try.f80 [] [⟨[.box [.k (.int .i64), .snil, .k (.int .i64)]], []⟩] (()) = gogeom_NewGeometryCollection_g N from by kernel_rfl).trans (by rfl)
noncomputable def gogeom_NewGeometryCollection_con (N : Nat) : Con2 := ⟨80, [], [⟨[.box [.k (.int .i64), .snil, .k (.int .i64)]], []⟩], fun x => gogeom_NewGeometryCollection N⟩
theorem gogeom_NewGeometryCollection_s (N : Nat) : (gogeom_NewGeometryCollection_con N).Sound Try.prog [] :=
  Con2.sound_of (c := gogeom_NewGeometryCollection_con N) (E := (gogeom_NewGeometryCollection_E N)) (idle := []) Try.func80 (by kernel_rfl) (by kernel_rfl) ⟨allNil, allNil, rfl⟩ allNil (fun x y h => (gogeom_NewGeometryCollection_t N).trans h)
/-- (*pub-orthodrome/pub/gogeom.GeometryCollection).SetSRID -/
noncomputable def gogeom_GeometryCollection_SetSRID_E (N : Nat) : Env := ⟨Try.prog, N, [], [(0, ⟨[], [], [], [], [], [0, 1], [1000000], none⟩), (1, ⟨[], [], [], [], [], [0, 1], [1000000], none⟩), (2, ⟨[], [], [], [], [], [0], [1000000], none⟩)], kdL [], [], [], []⟩
def gogeom_GeometryCollection_SetSRID_g (N : Nat) (v1 : (Int × Unit × Int × Unit)) (v2 : Int) : Option ((Unit × Unit)) :=
  (some ((), ()))
def gogeom_GeometryCollection_SetSRID (N : Nat) (v1 : (Int × Unit × Int × Unit)) (v2 : Int) : Option ((Unit × Unit)) :=
  gogeom_GeometryCollection_SetSRID_g N v1 v2
set_option maxRecDepth 100000
theorem gogeom_GeometryCollection_SetSRID_t (N : Nat) (v1 : (Int × Unit × Int × Unit)) (v2 : Int) : evF2 (gogeom_GeometryCollection_SetSRID_E N) [] Try.f81 [.box [.k (.int .i64), .snil, .k (.int .i64)], .k (.int .i64)] [⟨[.par 0], [none, none]⟩] (v1, v2, ()) = gogeom_GeometryCollection_SetSRID N v1 v2 := by
  exact (show evF2 (gogeom_GeometryCollection_SetSRID_E N) [] Try.f81 [.box [.k (.int .i64), .snil, .k (.int .i64)], .k (.int .i64)] [⟨[.par 0], [none, none]⟩] (v1, v2, ()) = gogeom_GeometryCollection_SetSRID_g N v1 v2 from by kernel_rfl).trans (by rfl)
noncomputable def gogeom_GeometryCollection_SetSRID_con (N : Nat) : Con2 := ⟨81, [.box [.k (.int .i64), .snil, .k (.int .i64)], .k (.int .i64)], [⟨[.par 0], [none, none]⟩], fun x => gogeom_GeometryCollection_SetSRID N x.1 x.2.1⟩
theorem gogeom_GeometryCollection_SetSRID_s (N : Nat) : (gogeom_GeometryCollection_SetSRID_con N).Sound Try.prog [] :=
  Con2.sound_of (c := gogeom_GeometryCollection_SetSRID_con N) (E := (gogeom_GeometryCollection_SetSRID_E N)) (idle := []) Try.func81 (by kernel_rfl) (by kernel_rfl) ⟨allNil, allNil, rfl⟩ allNil (fun x y h => (gogeom_GeometryCollection_SetSRID_t N x.1 x.2.1).trans h)
/-- pub-orthodrome/impl.geometry -/
def impl_geometry_g0 (N : Nat) (self : Geo → Option (((Int × Int × (List Nat) × Int × Unit) × Unit) ⊕ ((Int × Int × (List Nat) × Int × Unit) × Unit) ⊕ ((Int × Int × (List Nat) × Int × Unit) × Unit) ⊕ ((Int × Int × (List Nat) × Int × (List Int) × Unit) × Unit) ⊕ ((Int × Int × (List Nat) × Int × (List Int) × Unit) × Unit) ⊕ ((Int × Int × (List Nat) × Int × (List Int) × Unit) × Unit) ⊕ ((Int × Int × (List Nat) × Int × (List (List Int)) × Unit) × Unit))) (v1 : Geo) (r0 : Option (((Int × Int × (List Nat) × Int × Unit) × Unit) ⊕ ((Int × Int × (List Nat) × Int × Unit) × Unit) ⊕ ((Int × Int × (List Nat) × Int × Unit) × Unit) ⊕ ((Int × Int × (List Nat) × Int × (List Int) × Unit) × Unit) ⊕ ((Int × Int × (List Nat) × Int × (List Int) × Unit) × Unit) ⊕ ((Int × Int × (List Nat) × Int × (List Int) × Unit) × Unit) ⊕ ((Int × Int × (List Nat) × Int × (List (List Int)) × Unit) × Unit))) : Option (((Int × Int × (List Nat) × Int × Unit) × Unit) ⊕ ((Int × Int × (List Nat) × Int × Unit) × Unit) ⊕ ((Int × Int × (List Nat) × Int × Unit) × Unit) ⊕ ((Int × Int × (List Nat) × Int × (List Int) × Unit) × Unit) ⊕ ((Int × Int × (List Nat) × Int × (List Int) × Unit) × Unit) ⊕ ((Int × Int × (List Nat) × Int × (List Int) × Unit) × Unit) ⊕ ((Int × Int × (List Nat) × Int × (List (List Int)) × Unit) × Unit)) :=
  (bif (decide ((0 : Int) < (v1.kids.length : Int))) then ((nth v1.kids 0).bind fun v24 => ((self (Geo.mk v24.kind v24.layout v24.srid v24.flat v24.ends v24.endss v24.kids)).bind fun v25 => Sum.elim (fun v26 => none) (fun v27 => Sum.elim (fun v28 => none) (fun v29 => Sum.elim (fun v30 => none) (fun v31 => Sum.elim (fun v32 => none) (fun v33 => Sum.elim (fun v34 => none) (fun v35 => Sum.elim (fun v36 => none) (fun v37 => none) v35) v33) v31) v29) v27) v25)) else none)
def impl_geometry_l0 (N : Nat) (self : Geo → Option (((Int × Int × (List Nat) × Int × Unit) × Unit) ⊕ ((Int × Int × (List Nat) × Int × Unit) × Unit) ⊕ ((Int × Int × (List Nat) × Int × Unit) × Unit) ⊕ ((Int × Int × (List Nat) × Int × (List Int) × Unit) × Unit) ⊕ ((Int × Int × (List Nat) × Int × (List Int) × Unit) × Unit) ⊕ ((Int × Int × (List Nat) × Int × (List Int) × Unit) × Unit) ⊕ ((Int × Int × (List Nat) × Int × (List (List Int)) × Unit) × Unit))) : Nat → Geo → Option (((Int × Int × (List Nat) × Int × Unit) × Unit) ⊕ ((Int × Int × (List Nat) × Int × Unit) × Unit) ⊕ ((Int × Int × (List Nat) × Int × Unit) × Unit) ⊕ ((Int × Int × (List Nat) × Int × (List Int) × Unit) × Unit) ⊕ ((Int × Int × (List Nat) × Int × (List Int) × Unit) × Unit) ⊕ ((Int × Int × (List Nat) × Int × (List Int) × Unit) × Unit) ⊕ ((Int × Int × (List Nat) × Int × (List (List Int)) × Unit) × Unit))
  | 0, _ => none
  | n + 1, v1 => impl_geometry_g0 N self v1 (impl_geometry_l0 N self n v1)
def impl_geometry_g (N : Nat) (self : Geo → Option (((Int × Int × (List Nat) × Int × Unit) × Unit) ⊕ ((Int × Int × (List Nat) × Int × Unit) × Unit) ⊕ ((Int × Int × (List Nat) × Int × Unit) × Unit) ⊕ ((Int × Int × (List Nat) × Int × (List Int) × Unit) × Unit) ⊕ ((Int × Int × (List Nat) × Int × (List Int) × Unit) × Unit) ⊕ ((Int × Int × (List Nat) × Int × (List Int) × Unit) × Unit) ⊕ ((Int × Int × (List Nat) × Int × (List (List Int)) × Unit) × Unit))) (v1 : Geo) (c0 : Geo → Option (((Int × Int × (List Nat) × Int × Unit) × Unit) ⊕ ((Int × Int × (List Nat) × Int × Unit) × Unit) ⊕ ((Int × Int × (List Nat) × Int × Unit) × Unit) ⊕ ((Int × Int × (List Nat) × Int × (List Int) × Unit) × Unit) ⊕ ((Int × Int × (List Nat) × Int × (List Int) × Unit) × Unit) ⊕ ((Int × Int × (List Nat) × Int × (List Int) × Unit) × Unit) ⊕ ((Int × Int × (List Nat) × Int × (List (List Int)) × Unit) × Unit))) : Option (((Int × Int × (List Nat) × Int × Unit) × Unit) ⊕ ((Int × Int × (List Nat) × Int × Unit) × Unit) ⊕ ((Int × Int × (List Nat) × Int × Unit) × Unit) ⊕ ((Int × Int × (List Nat) × Int × (List Int) × Unit) × Unit) ⊕ ((Int × Int × (List Nat) × Int × (List Int) × Unit) × Unit) ⊕ ((Int × Int × (List Nat) × Int × (List Int) × Unit) × Unit) ⊕ ((Int × Int × (List Nat) × Int × (List (List Int)) × Unit) × Unit)) :=
  ((impl_floats N v1.flat).bind fun v2 => (bif (v1.kind == 1) then ((gogeom_NewPointFlat_b N v1.layout v2.1).bind fun v3 => (gogeom_Point_SetSRID N (v3.1.1, v3.1.2.1, v3.1.2.2.1, v3.1.2.2.2.1, ()) v1.srid).bind fun v4 => (some (Sum.inl ((v4.2.1.1, v4.2.1.2.1, v4.2.1.2.2.1, v4.2.1.2.2.2.1, ()), ())))) else (bif (v1.kind == 2) then ((gogeom_NewLineStringFlat_b N v1.layout v2.1).bind fun v5 => (gogeom_LineString_SetSRID N (v5.1.1, v5.1.2.1, v5.1.2.2.1, v5.1.2.2.2.1, ()) v1.srid).bind fun v6 => (some (Sum.inr (Sum.inl ((v6.2.1.1, v6.2.1.2.1, v6.2.1.2.2.1, v6.2.1.2.2.2.1, ()), ()))))) else (bif (v1.kind == 8) then ((gogeom_NewLinearRingFlat_b N v1.layout v2.1).bind fun v7 => (gogeom_LinearRing_SetSRID N (v7.1.1, v7.1.2.1, v7.1.2.2.1, v7.1.2.2.2.1, ()) v1.srid).bind fun v8 => (some (Sum.inr (Sum.inr (Sum.inl ((v8.2.1.1, v8.2.1.2.1, v8.2.1.2.2.1, v8.2.1.2.2.2.1, ()), ())))))) else (bif (v1.kind == 3) then ((impl_ints N v1.ends).bind fun v9 => (gogeom_NewPolygonFlat_b N v1.layout v2.1 v9.1).bind fun v10 => (gogeom_Polygon_SetSRID N (v10.1.1, v10.1.2.1, v10.1.2.2.1, v10.1.2.2.2.1, v10.1.2.2.2.2.1, ()) v1.srid).bind fun v11 => (some (Sum.inr (Sum.inr (Sum.inr (Sum.inl ((v11.2.1.1, v11.2.1.2.1, v11.2.1.2.2.1, v11.2.1.2.2.2.1, v11.2.1.2.2.2.2.1, ()), ()))))))) else (bif (v1.kind == 4) then ((impl_ints N v1.ends).bind fun v12 => (gogeom_NewMultiPointFlatOptionWithEnds N v12.1).bind fun v13 => (gogeom_NewMultiPointFlat N v1.layout v2.1 (((v13.1.1.1, ()), ()), ())).bind fun v14 => (gogeom_MultiPoint_SetSRID N (v14.1.1, v14.1.2.1, v14.1.2.2.1, v14.1.2.2.2.1, v14.1.2.2.2.2.1, ()) v1.srid).bind fun v15 => (some (Sum.inr (Sum.inr (Sum.inr (Sum.inr (Sum.inl ((v15.2.1.1, v15.2.1.2.1, v15.2.1.2.2.1, v15.2.1.2.2.2.1, v15.2.1.2.2.2.2.1, ()), ())))))))) else (bif (v1.kind == 5) then ((impl_ints N v1.ends).bind fun v16 => (gogeom_NewMultiLineStringFlat_b N v1.layout v2.1 v16.1).bind fun v17 => (gogeom_MultiLineString_SetSRID N (v17.1.1, v17.1.2.1, v17.1.2.2.1, v17.1.2.2.2.1, v17.1.2.2.2.2.1, ()) v1.srid).bind fun v18 => (some (Sum.inr (Sum.inr (Sum.inr (Sum.inr (Sum.inr (Sum.inl ((v18.2.1.1, v18.2.1.2.1, v18.2.1.2.2.1, v18.2.1.2.2.2.1, v18.2.1.2.2.2.2.1, ()), ()))))))))) else (bif (v1.kind == 6) then ((impl_intss N v1.endss).bind fun v19 => (gogeom_NewMultiPolygonFlat N v1.layout v2.1 v19.1).bind fun v20 => (gogeom_MultiPolygon_SetSRID N (v20.1.1, v20.1.2.1, v20.1.2.2.1, v20.1.2.2.2.1, v20.1.2.2.2.2.1, ()) v1.srid).bind fun v21 => (some (Sum.inr (Sum.inr (Sum.inr (Sum.inr (Sum.inr (Sum.inr ((v21.2.1.1, v21.2.1.2.1, v21.2.1.2.2.1, v21.2.1.2.2.2.1, v21.2.1.2.2.2.2.1, ()), ()))))))))) else (bif (v1.kind == 7) then ((gogeom_NewGeometryCollection N).bind fun v22 => (gogeom_GeometryCollection_SetSRID N (v22.1.1, (), v22.1.2.2.1, ()) v1.srid).bind fun v23 => ((c0 v1))) else none)))))))))
def impl_geometry (N : Nat) : Nat → Geo → Option (((Int × Int × (List Nat) × Int × Unit) × Unit) ⊕ ((Int × Int × (List Nat) × Int × Unit) × Unit) ⊕ ((Int × Int × (List Nat) × Int × Unit) × Unit) ⊕ ((Int × Int × (List Nat) × Int × (List Int) × Unit) × Unit) ⊕ ((Int × Int × (List Nat) × Int × (List Int) × Unit) × Unit) ⊕ ((Int × Int × (List Nat) × Int × (List Int) × Unit) × Unit) ⊕ ((Int × Int × (List Nat) × Int × (List (List Int)) × Unit) × Unit))
  | 0, _ => none
  | d + 1, v1 => impl_geometry_g N (impl_geometry N d) v1 (impl_geometry_l0 N (impl_geometry N d) N)
noncomputable def impl_geometry_con' (N : Nat) (d : Nat) : Con2 := ⟨36, [.k .geo], [⟨[.ifc 109 (.box [.k (.int .i64), .k (.int .i64), .row 44 .float, .k (.int .i64)])], [none]⟩, ⟨[.ifc 80 (.box [.k (.int .i64), .k (.int .i64), .row 44 .float, .k (.int .i64)])], [none]⟩, ⟨[.ifc 87 (.box [.k (.int .i64), .k (.int .i64), .row 44 .float, .k (.int .i64)])], [none]⟩, ⟨[.ifc 116 (.box [.k (.int .i64), .k (.int .i64), .row 44 .float, .k (.int .i64), .row 3 (.int .i64)])], [none]⟩, ⟨[.ifc 91 (.box [.k (.int .i64), .k (.int .i64), .row 44 .float, .k (.int .i64), .k (.list (.int .i64))])], [none]⟩, ⟨[.ifc 125 (.box [.k (.int .i64), .k (.int .i64), .row 44 .float, .k (.int .i64), .row 3 (.int .i64)])], [none]⟩, ⟨[.ifc 128 (.box [.k (.int .i64), .k (.int .i64), .row 44 .float, .k (.int .i64), .row 25 (.list (.int .i64))])], [none]⟩], fun x => impl_geometry N d x.1⟩
noncomputable def impl_geometry_E (N : Nat) (d : Nat) : Env := ⟨Try.prog, N, [], [(0, ⟨[], [], [], [], [], [0], [], none⟩), (1, ⟨[], [], [], [], [], [1, 2], [1], none⟩), (2, ⟨[], [], [], [], [], [1, 2, 3, 4], [1, 100600], none⟩), (3, ⟨[], [], [], [], [], [1, 2, 3, 4, 14], [1, 100600], none⟩), (4, ⟨[], [], [], [], [], [1, 2, 3, 4, 14, 15], [1, 100600], none⟩), (6, ⟨[], [], [], [], [], [1, 2, 3, 4, 14, 24], [1, 100600], none⟩), (8, ⟨[], [], [], [], [], [1, 2, 3, 4, 14, 33], [1, 100600], none⟩), (10, ⟨[], [], [], [], [], [1, 2, 3, 4, 14, 42], [1, 100600], none⟩), (12, ⟨[], [], [], [], [], [1, 2, 3, 4, 14, 54], [1, 100600], none⟩), (14, ⟨[], [], [], [], [], [1, 2, 3, 4, 14, 68], [1, 100600], none⟩), (16, ⟨[], [], [], [], [], [1, 2, 3, 4, 14, 80], [1, 100600], none⟩), (18, ⟨[], [], [], [], [], [1, 2, 3, 92], [1], none⟩), (19, ⟨[], [], [], [], [], [1, 3, 5], [1, 104700], none⟩), (20, ⟨[], [], [], [], [], [3, 5, 99, 100, 101], [104700], none⟩), (21, ⟨[], [], [], [], [], [3, 5, 99, 100, 101], [104700], none⟩), (22, ⟨[], [], [], [], [], [3, 5, 7, 99, 100, 101], [7, 104700], none⟩), (23, ⟨[], [], [], [], [], [3, 5, 99, 100, 101], [], none⟩), (24, ⟨[], [], [], [], [], [3, 5], [104700], none⟩), (25, ⟨[], [], [], [], [], [2], [], none⟩)], kdL [], [impl_geometry_con' N d, impl_floats_con N, gogeom_NewPointFlat_b_con N, gogeom_Point_SetSRID_con N, gogeom_NewLineStringFlat_b_con N, gogeom_LineString_SetSRID_con N, gogeom_NewLinearRingFlat_b_con N, gogeom_LinearRing_SetSRID_con N, impl_ints_con N, gogeom_NewPolygonFlat_b_con N, gogeom_Polygon_SetSRID_con N, gogeom_NewMultiPointFlatOptionWithEnds_con N, gogeom_NewMultiPointFlat_con N, gogeom_MultiPoint_SetSRID_con N, gogeom_NewMultiLineStringFlat_b_con N, gogeom_MultiLineString_SetSRID_con N, impl_intss_con N, gogeom_NewMultiPolygonFlat_con N, gogeom_MultiPolygon_SetSRID_con N, gogeom_NewGeometryCollection_con N, gogeom_GeometryCollection_SetSRID_con N], [], []⟩
set_option maxRecDepth 100000
noncomputable def impl_geometry_e0 (N : Nat) (d : Nat) (n : Nat) (v1 : Geo) : Option (AltD [⟨[.ifc 109 (.box [.k (.int .i64), .k (.int .i64), .row 44 .float, .k (.int .i64)])], [none]⟩, ⟨[.ifc 80 (.box [.k (.int .i64), .k (.int .i64), .row 44 .float, .k (.int .i64)])], [none]⟩, ⟨[.ifc 87 (.box [.k (.int .i64), .k (.int .i64), .row 44 .float, .k (.int .i64)])], [none]⟩, ⟨[.ifc 116 (.box [.k (.int .i64), .k (.int .i64), .row 44 .float, .k (.int .i64), .row 3 (.int .i64)])], [none]⟩, ⟨[.ifc 91 (.box [.k (.int .i64), .k (.int .i64), .row 44 .float, .k (.int .i64), .k (.list (.int .i64))])], [none]⟩, ⟨[.ifc 125 (.box [.k (.int .i64), .k (.int .i64), .row 44 .float, .k (.int .i64), .row 3 (.int .i64)])], [none]⟩, ⟨[.ifc 128 (.box [.k (.int .i64), .k (.int .i64), .row 44 .float, .k (.int .i64), .row 25 (.list (.int .i64))])], [none]⟩]) :=
  loopN (advOf (impl_geometry_E N d) (codeAt (bodyOf Try.f36) [1, 1, 0, 1, 0, 1, 1, 1, 1, 1, 1, 1, 1, 1, 1, 1, 1, 1, 1, 1, 0, 1, 0, 1, 0, 0])) (evC (impl_geometry_E N d) (codeAt (bodyOf Try.f36) [1, 1, 0, 1, 0, 1, 1, 1, 1, 1, 1, 1, 1, 1, 1, 1, 1, 1, 1, 1, 0, 1, 0, 1, 0, 0])) n ⟨[(3, .pv (.int .i64) v1.layout), (5, .ref 104700 0), (99, .pv (.list .geo) v1.kids), (100, .pv (.int .i64) (v1.kids.length : Int)), (101, .pv (.int .i64) 0)], [(104700, .gone)], []⟩ (kBlock 1 (kSeq (advOf (impl_geometry_E N d) (codeAt (bodyOf Try.f36) [1, 1, 0, 1, 0, 1, 1, 1, 1, 1, 1, 1, 1, 1, 1, 1, 1, 1, 1, 1, 0, 1, 1])) (evC (impl_geometry_E N d) (codeAt (bodyOf Try.f36) [1, 1, 0, 1, 0, 1, 1, 1, 1, 1, 1, 1, 1, 1, 1, 1, 1, 1, 1, 1, 0, 1, 1])) (kBlock 0 (kSeq (advOf (impl_geometry_E N d) (codeAt (bodyOf Try.f36) [1, 1, 1])) (evC (impl_geometry_E N d) (codeAt (bodyOf Try.f36) [1, 1, 1])) (kEnd2 (impl_geometry_E N d) [] Try.f36.results.toList [⟨[.ifc 109 (.box [.k (.int .i64), .k (.int .i64), .row 44 .float, .k (.int .i64)])], [none]⟩, ⟨[.ifc 80 (.box [.k (.int .i64), .k (.int .i64), .row 44 .float, .k (.int .i64)])], [none]⟩, ⟨[.ifc 87 (.box [.k (.int .i64), .k (.int .i64), .row 44 .float, .k (.int .i64)])], [none]⟩, ⟨[.ifc 116 (.box [.k (.int .i64), .k (.int .i64), .row 44 .float, .k (.int .i64), .row 3 (.int .i64)])], [none]⟩, ⟨[.ifc 91 (.box [.k (.int .i64), .k (.int .i64), .row 44 .float, .k (.int .i64), .k (.list (.int .i64))])], [none]⟩, ⟨[.ifc 125 (.box [.k (.int .i64), .k (.int .i64), .row 44 .float, .k (.int .i64), .row 3 (.int .i64)])], [none]⟩, ⟨[.ifc 128 (.box [.k (.int .i64), .k (.int .i64), .row 44 .float, .k (.int .i64), .row 25 (.list (.int .i64))])], [none]⟩] [.dead])))))
theorem impl_geometry_t0 (N : Nat) (d : Nat) : ∀ (n : Nat) (v1 : Geo), impl_geometry_e0 N d n v1 = impl_geometry_l0 N (impl_geometry N d) n v1
  | 0, _ => rfl
  | n + 1, v1 => by
    have h : impl_geometry_e0 N d n v1 = impl_geometry_l0 N (impl_geometry N d) n v1 := by exact impl_geometry_t0 N d n v1
    exact (show impl_geometry_e0 N d (n + 1) v1 = impl_geometry_g0 N (impl_geometry N d) v1 (impl_geometry_e0 N d n v1) from by kernel_rfl).trans (by rw [h]; rfl)
theorem impl_geometry_t (N : Nat) (d : Nat) (v1 : Geo) : evF2 (impl_geometry_E N d) [] Try.f36 [.k .geo] [⟨[.ifc 109 (.box [.k (.int .i64), .k (.int .i64), .row 44 .float, .k (.int .i64)])], [none]⟩, ⟨[.ifc 80 (.box [.k (.int .i64), .k (.int .i64), .row 44 .float, .k (.int .i64)])], [none]⟩, ⟨[.ifc 87 (.box [.k (.int .i64), .k (.int .i64), .row 44 .float, .k (.int .i64)])], [none]⟩, ⟨[.ifc 116 (.box [.k (.int .i64), .k (.int .i64), .row 44 .float, .k (.int .i64), .row 3 (.int .i64)])], [none]⟩, ⟨[.ifc 91 (.box [.k (.int .i64), .k (.int .i64), .row 44 .float, .k (.int .i64), .k (.list (.int .i64))])], [none]⟩, ⟨[.ifc 125 (.box [.k (.int .i64), .k (.int .i64), .row 44 .float, .k (.int .i64), .row 3 (.int .i64)])], [none]⟩, ⟨[.ifc 128 (.box [.k (.int .i64), .k (.int .i64), .row 44 .float, .k (.int .i64), .row 25 (.list (.int .i64))])], [none]⟩] (v1, ()) = impl_geometry N (d + 1) v1 := by
  have h0 : (impl_geometry_e0 N d N) = (impl_geometry_l0 N (impl_geometry N d) N) := by funext v1; exact impl_geometry_t0 N d N v1
  exact (show evF2 (impl_geometry_E N d) [] Try.f36 [.k .geo] [⟨[.ifc 109 (.box [.k (.int .i64), .k (.int .i64), .row 44 .float, .k (.int .i64)])], [none]⟩, ⟨[.ifc 80 (.box [.k (.int .i64), .k (.int .i64), .row 44 .float, .k (.int .i64)])], [none]⟩, ⟨[.ifc 87 (.box [.k (.int .i64), .k (.int .i64), .row 44 .float, .k (.int .i64)])], [none]⟩, ⟨[.ifc 116 (.box [.k (.int .i64), .k (.int .i64), .row 44 .float, .k (.int .i64), .row 3 (.int .i64)])], [none]⟩, ⟨[.ifc 91 (.box [.k (.int .i64), .k (.int .i64), .row 44 .float, .k (.int .i64), .k (.list (.int .i64))])], [none]⟩, ⟨[.ifc 125 (.box [.k (.int .i64), .k (.int .i64), .row 44 .float, .k (.int .i64), .row 3 (.int .i64)])], [none]⟩, ⟨[.ifc 128 (.box [.k (.int .i64), .k (.int .i64), .row 44 .float, .k (.int .i64), .row 25 (.list (.int .i64))])], [none]⟩] (v1, ()) = impl_geometry_g N (impl_geometry N d) v1 (impl_geometry_e0 N d N) from by kernel_rfl).trans (by rw [h0]; rfl)
theorem impl_geometry_s' (N : Nat) : ∀ d, (impl_geometry_con' N d).Sound Try.prog []
  | 0 => fun _ _ _ _ _ _ _ _ _ _ _ h => by cases h
  | d + 1 => Con2.sound_of (c := impl_geometry_con' N (d + 1)) (E := (impl_geometry_E N d)) (idle := []) Try.func36 (by kernel_rfl) (by kernel_rfl) ⟨allNil, (allCons (impl_geometry_s' N d) (allCons (impl_floats_s N) (allCons (gogeom_NewPointFlat_b_s N) (allCons (gogeom_Point_SetSRID_s N) (allCons (gogeom_NewLineStringFlat_b_s N) (allCons (gogeom_LineString_SetSRID_s N) (allCons (gogeom_NewLinearRingFlat_b_s N) (allCons (gogeom_LinearRing_SetSRID_s N) (allCons (impl_ints_s N) (allCons (gogeom_NewPolygonFlat_b_s N) (allCons (gogeom_Polygon_SetSRID_s N) (allCons (gogeom_NewMultiPointFlatOptionWithEnds_s N) (allCons (gogeom_NewMultiPointFlat_s N) (allCons (gogeom_MultiPoint_SetSRID_s N) (allCons (gogeom_NewMultiLineStringFlat_b_s N) (allCons (gogeom_MultiLineString_SetSRID_s N) (allCons (impl_intss_s N) (allCons (gogeom_NewMultiPolygonFlat_s N) (allCons (gogeom_MultiPolygon_SetSRID_s N) (allCons (gogeom_NewGeometryCollection_s N) (allCons (gogeom_GeometryCollection_SetSRID_s N) allNil))))))))))))))))))))), rfl⟩ allNil (fun x y h => (impl_geometry_t N d x.1).trans h)
noncomputable def impl_geometry_con (N : Nat) : Con2 := impl_geometry_con' N N
theorem impl_geometry_s (N : Nat) : (impl_geometry_con N).Sound Try.prog [] := impl_geometry_s' N N

end
end Go.Proofs.Ytjabjnkiddldeaa.TR
