import Derived.Test.YtcppjdjimmnlkaaProg
import Derived.Test.YtcppjdjimmnlkaaAv16
import Derived.Test.YtcppjdjimmnlkaaAv19
import Derived.Test.YtcppjdjimmnlkaaAv20
import Derived.KernelRfl
set_option linter.unusedVariables false
namespace Go.Proofs.Ytcppjdjimmnlkaa.FTrimRight
open Go Go.Av
/-- pub-orthodrome/pub/gogeom/encoding/wkt.zzTrimRight -/
noncomputable def f39_E (N : Nat) : Env := ⟨Try.prog, N, [], [(0, ⟨[], [], [0, 1], [], none⟩), (1, ⟨[], [], [0, 1], [], none⟩), (2, ⟨[], [], [0, 1, 5], [], none⟩), (3, ⟨[], [], [0, 1, 5], [], none⟩), (4, ⟨[], [], [0, 1, 5, 6], [], none⟩), (5, ⟨[], [], [0, 1, 5, 6, 7], [], none⟩), (6, ⟨[], [], [0, 1, 5, 6, 7], [], some N⟩), (7, ⟨[], [], [0, 1, 5, 6, 7], [], none⟩), (8, ⟨[], [], [0, 1, 5, 6, 7, 25], [], none⟩), (9, ⟨[], [], [0, 1, 5, 6], [], none⟩), (10, ⟨[], [], [0, 1, 5], [], none⟩), (11, ⟨[], [], [0, 5], [], some N⟩)], kdL []⟩
def f39_g2 (N : Nat) (v1 : ByteArray) (v2 : ByteArray) (v11 : Int) (v16 : Int) (r1 : Bool → Int → Option (ByteArray)) (r0 : Int → Option (ByteArray)) (v19 : Bool) : Option (ByteArray) :=
  (r1 v19 (IntKind.i64.wrap (v16 + 1)))
def f39_j2 (N : Nat) (r1 : Bool → Int → Option (ByteArray)) (r0 : Int → Option (ByteArray)) (v1 : ByteArray) (v2 : ByteArray) (v11 : Int) (v16 : Int) (v19 : Bool) : Option (ByteArray) :=
  gate N (f39_g2 N v1 v2 v11 v16 r1 r0 v19)
def f39_g3 (N : Nat) (v1 : ByteArray) (v11 : Int) : Option (ByteArray) :=
  (chk2 0 v11 v1.size).bind fun v20 => (some (v1.extract v20.1 v20.2))
def f39_j3 (N : Nat) (v1 : ByteArray) (v11 : Int) : Option (ByteArray) :=
  gate N (f39_g3 N v1 v11)
def f39_g1 (N : Nat) (v1 : ByteArray) (v2 : ByteArray) (v11 : Int) (c2 : Int → Bool → Option (ByteArray)) (c3 : ByteArray → Int → Option (ByteArray)) (r1 : Bool → Int → Option (ByteArray)) (r0 : Int → Option (ByteArray)) (v15 : Bool) (v16 : Int) : Option (ByteArray) :=
  (bif (decide ((v16 : Int) < (v2.size : Int))) then ((chk v16 v2.size).bind fun v17 => (chk (IntKind.i64.wrap (v11 - 1)) v1.size).bind fun v18 => (bif ((sbyte v2 v17) == (sbyte v1 v18)) then (c2 v16 true) else (c2 v16 v15))) else (bif (!v15) then (c3 v1 v11) else ((r0 (IntKind.i64.wrap (v11 - 1))))))
def f39_l1 (N : Nat) (r0 : Int → Option (ByteArray)) (v1 : ByteArray) (v2 : ByteArray) : Nat → Int → Bool → Int → Option (ByteArray)
  | 0, _, _, _ => none
  | n + 1, v11, v15, v16 => f39_g1 N v1 v2 v11 (f39_j2 N (f39_l1 N r0 v1 v2 n v11) r0 v1 v2 v11) (f39_j3 N) (f39_l1 N r0 v1 v2 n v11) r0 v15 v16
def f39_g0 (N : Nat) (v1 : ByteArray) (v2 : ByteArray) (c1 : Int → Bool → Int → Option (ByteArray)) (c3 : ByteArray → Int → Option (ByteArray)) (r0 : Int → Option (ByteArray)) (v11 : Int) : Option (ByteArray) :=
  (bif (decide ((v11 : Int) > 0)) then ((c1 v11 false 0)) else (c3 v1 v11))
def f39_l0 (N : Nat) : Nat → ByteArray → ByteArray → Int → Option (ByteArray)
  | 0, _, _, _ => none
  | n + 1, v1, v2, v11 => f39_g0 N v1 v2 (f39_l1 N (f39_l0 N n v1 v2) v1 v2 N) (f39_j3 N) (f39_l0 N n v1 v2) v11
def f39_g (N : Nat) (v1 : ByteArray) (v2 : ByteArray) (c0 : ByteArray → ByteArray → Int → Option (ByteArray)) : Option (ByteArray) :=
  ((c0 v1 v2 (v1.size : Int)))
def f39 (N : Nat) (v1 : ByteArray) (v2 : ByteArray) : Option (ByteArray) :=
  f39_g N v1 v2 (f39_l0 N N)
set_option maxRecDepth 100000
noncomputable def f39_e2 (N : Nat) (m1 : Nat) (m0 : Nat) (v1 : ByteArray) (v2 : ByteArray) (v11 : Int) (v16 : Int) (v19 : Bool) : Option (HR [.str]) :=
  gate N (evC (f39_E N) (codeAt (bodyOf Try.f39) [1, 1, 0, 0, 0, 1, 0, 1, 0, 1, 0, 0, 1, 1]) ⟨[(0, .pv .str v1), (1, .pv .str v2), (5, .pv (.int .i64) v11), (6, .pv .bool v19), (7, .pv (.int .i64) v16)], [], []⟩ (kSeq (advOf (f39_E N) (codeAt (bodyOf Try.f39) [1, 1, 0, 0, 0, 1, 0, 1, 0, 1, 0, 0])) (fun st K => loopN (advOf (f39_E N) (codeAt (bodyOf Try.f39) [1, 1, 0, 0, 0, 1, 0, 1, 0, 1, 0, 0])) (evC (f39_E N) (codeAt (bodyOf Try.f39) [1, 1, 0, 0, 0, 1, 0, 1, 0, 1, 0, 0])) m1 st K) (kBlock 2 (kSeq (advOf (f39_E N) (codeAt (bodyOf Try.f39) [1, 1, 0, 0, 0, 1, 0, 1, 1])) (evC (f39_E N) (codeAt (bodyOf Try.f39) [1, 1, 0, 0, 0, 1, 0, 1, 1])) (kBlock 1 (kSeq (advOf (f39_E N) (codeAt (bodyOf Try.f39) [1, 1, 0, 0, 0])) (fun st K => loopN (advOf (f39_E N) (codeAt (bodyOf Try.f39) [1, 1, 0, 0, 0])) (evC (f39_E N) (codeAt (bodyOf Try.f39) [1, 1, 0, 0, 0])) m0 st K) (kBlock 0 (kSeq (advOf (f39_E N) (codeAt (bodyOf Try.f39) [1, 1, 1])) (evC (f39_E N) (codeAt (bodyOf Try.f39) [1, 1, 1])) (kEnd (f39_E N) [] Try.f39.results.toList [.str])))))))))
noncomputable def f39_e3 (N : Nat) (v1 : ByteArray) (v11 : Int) : Option (HR [.str]) :=
  gate N (evC (f39_E N) (codeAt (bodyOf Try.f39) [1, 1, 1]) ⟨[(0, .pv .str v1), (5, .pv (.int .i64) v11)], [], []⟩ (kEnd (f39_E N) [] Try.f39.results.toList [.str]))
noncomputable def f39_e1 (N : Nat) (m0 : Nat) (v1 : ByteArray) (v2 : ByteArray) (n : Nat) (v11 : Int) (v15 : Bool) (v16 : Int) : Option (HR [.str]) :=
  loopN (advOf (f39_E N) (codeAt (bodyOf Try.f39) [1, 1, 0, 0, 0, 1, 0, 1, 0, 1, 0, 0])) (evC (f39_E N) (codeAt (bodyOf Try.f39) [1, 1, 0, 0, 0, 1, 0, 1, 0, 1, 0, 0])) n ⟨[(0, .pv .str v1), (1, .pv .str v2), (5, .pv (.int .i64) v11), (6, .pv .bool v15), (7, .pv (.int .i64) v16)], [], []⟩ (kBlock 2 (kSeq (advOf (f39_E N) (codeAt (bodyOf Try.f39) [1, 1, 0, 0, 0, 1, 0, 1, 1])) (evC (f39_E N) (codeAt (bodyOf Try.f39) [1, 1, 0, 0, 0, 1, 0, 1, 1])) (kBlock 1 (kSeq (advOf (f39_E N) (codeAt (bodyOf Try.f39) [1, 1, 0, 0, 0])) (fun st K => loopN (advOf (f39_E N) (codeAt (bodyOf Try.f39) [1, 1, 0, 0, 0])) (evC (f39_E N) (codeAt (bodyOf Try.f39) [1, 1, 0, 0, 0])) m0 st K) (kBlock 0 (kSeq (advOf (f39_E N) (codeAt (bodyOf Try.f39) [1, 1, 1])) (evC (f39_E N) (codeAt (bodyOf Try.f39) [1, 1, 1])) (kEnd (f39_E N) [] Try.f39.results.toList [.str])))))))
noncomputable def f39_e0 (N : Nat) (n : Nat) (v1 : ByteArray) (v2 : ByteArray) (v11 : Int) : Option (HR [.str]) :=
  loopN (advOf (f39_E N) (codeAt (bodyOf Try.f39) [1, 1, 0, 0, 0])) (evC (f39_E N) (codeAt (bodyOf Try.f39) [1, 1, 0, 0, 0])) n ⟨[(0, .pv .str v1), (1, .pv .str v2), (5, .pv (.int .i64) v11)], [], []⟩ (kBlock 0 (kSeq (advOf (f39_E N) (codeAt (bodyOf Try.f39) [1, 1, 1])) (evC (f39_E N) (codeAt (bodyOf Try.f39) [1, 1, 1])) (kEnd (f39_E N) [] Try.f39.results.toList [.str])))
theorem f39_t2 (N : Nat) (m1 : Nat) (m0 : Nat) (v1 : ByteArray) (v2 : ByteArray) (v11 : Int) (v16 : Int) (v19 : Bool) : f39_e2 N m1 m0 v1 v2 v11 v16 v19 = f39_j2 N (f39_e1 N m0 v1 v2 m1 v11) (f39_e0 N m0 v1 v2) v1 v2 v11 v16 v19 := by
  exact (congrArg (gate N) (show evC (f39_E N) (codeAt (bodyOf Try.f39) [1, 1, 0, 0, 0, 1, 0, 1, 0, 1, 0, 0, 1, 1]) ⟨[(0, .pv .str v1), (1, .pv .str v2), (5, .pv (.int .i64) v11), (6, .pv .bool v19), (7, .pv (.int .i64) v16)], [], []⟩ (kSeq (advOf (f39_E N) (codeAt (bodyOf Try.f39) [1, 1, 0, 0, 0, 1, 0, 1, 0, 1, 0, 0])) (fun st K => loopN (advOf (f39_E N) (codeAt (bodyOf Try.f39) [1, 1, 0, 0, 0, 1, 0, 1, 0, 1, 0, 0])) (evC (f39_E N) (codeAt (bodyOf Try.f39) [1, 1, 0, 0, 0, 1, 0, 1, 0, 1, 0, 0])) m1 st K) (kBlock 2 (kSeq (advOf (f39_E N) (codeAt (bodyOf Try.f39) [1, 1, 0, 0, 0, 1, 0, 1, 1])) (evC (f39_E N) (codeAt (bodyOf Try.f39) [1, 1, 0, 0, 0, 1, 0, 1, 1])) (kBlock 1 (kSeq (advOf (f39_E N) (codeAt (bodyOf Try.f39) [1, 1, 0, 0, 0])) (fun st K => loopN (advOf (f39_E N) (codeAt (bodyOf Try.f39) [1, 1, 0, 0, 0])) (evC (f39_E N) (codeAt (bodyOf Try.f39) [1, 1, 0, 0, 0])) m0 st K) (kBlock 0 (kSeq (advOf (f39_E N) (codeAt (bodyOf Try.f39) [1, 1, 1])) (evC (f39_E N) (codeAt (bodyOf Try.f39) [1, 1, 1])) (kEnd (f39_E N) [] Try.f39.results.toList [.str])))))))) = f39_g2 N v1 v2 v11 v16 (f39_e1 N m0 v1 v2 m1 v11) (f39_e0 N m0 v1 v2) v19 from by kernel_rfl)).trans (by rfl)
theorem f39_t3 (N : Nat) (v1 : ByteArray) (v11 : Int) : f39_e3 N v1 v11 = f39_j3 N v1 v11 := by
  exact (congrArg (gate N) (show evC (f39_E N) (codeAt (bodyOf Try.f39) [1, 1, 1]) ⟨[(0, .pv .str v1), (5, .pv (.int .i64) v11)], [], []⟩ (kEnd (f39_E N) [] Try.f39.results.toList [.str]) = f39_g3 N v1 v11 from by kernel_rfl)).trans (by rfl)
theorem f39_t1 (N : Nat) (m0 : Nat) (v1 : ByteArray) (v2 : ByteArray) : ∀ (n : Nat) (v11 : Int) (v15 : Bool) (v16 : Int), f39_e1 N m0 v1 v2 n v11 v15 v16 = f39_l1 N (f39_e0 N m0 v1 v2) v1 v2 n v11 v15 v16
  | 0, _, _, _ => rfl
  | n + 1, v11, v15, v16 => by
    have h2 : (f39_e2 N n m0 v1 v2 v11) = (f39_j2 N (f39_e1 N m0 v1 v2 n v11) (f39_e0 N m0 v1 v2) v1 v2 v11) := by funext v16 v19; exact f39_t2 N n m0 v1 v2 v11 v16 v19
    have h3 : (f39_e3 N) = (f39_j3 N) := by funext v1 v11; exact f39_t3 N v1 v11
    have h : f39_e1 N m0 v1 v2 n v11 = f39_l1 N (f39_e0 N m0 v1 v2) v1 v2 n v11 := by funext v15 v16; exact f39_t1 N m0 v1 v2 n v11 v15 v16
    exact (show f39_e1 N m0 v1 v2 (n + 1) v11 v15 v16 = f39_g1 N v1 v2 v11 (f39_e2 N n m0 v1 v2 v11) (f39_e3 N) (f39_e1 N m0 v1 v2 n v11) (f39_e0 N m0 v1 v2) v15 v16 from by kernel_rfl).trans (by rw [h2, h3, h]; rfl)
theorem f39_t0 (N : Nat) : ∀ (n : Nat) (v1 : ByteArray) (v2 : ByteArray) (v11 : Int), f39_e0 N n v1 v2 v11 = f39_l0 N n v1 v2 v11
  | 0, _, _, _ => rfl
  | n + 1, v1, v2, v11 => by
    have h1 : (f39_e1 N n v1 v2 N) = (f39_l1 N (f39_e0 N n v1 v2) v1 v2 N) := by funext v11 v15 v16; exact f39_t1 N n v1 v2 N v11 v15 v16
    have h3 : (f39_e3 N) = (f39_j3 N) := by funext v1 v11; exact f39_t3 N v1 v11
    have h : f39_e0 N n v1 v2 = f39_l0 N n v1 v2 := by funext v11; exact f39_t0 N n v1 v2 v11
    exact (show f39_e0 N (n + 1) v1 v2 v11 = f39_g0 N v1 v2 (f39_e1 N n v1 v2 N) (f39_e3 N) (f39_e0 N n v1 v2) v11 from by kernel_rfl).trans (by rw [h1, h3, h]; rfl)
theorem f39_t (N : Nat) (v1 : ByteArray) (v2 : ByteArray) : evF (f39_E N) [] Try.f39 [.k .str, .k .str] [.str] (v1, v2, ()) = f39 N v1 v2 := by
  have h0 : (f39_e0 N N) = (f39_l0 N N) := by funext v1 v2 v11; exact f39_t0 N N v1 v2 v11
  exact (show evF (f39_E N) [] Try.f39 [.k .str, .k .str] [.str] (v1, v2, ()) = f39_g N v1 v2 (f39_e0 N N) from by kernel_rfl).trans (by rw [h0]; rfl)
noncomputable def f39_con (N : Nat) : Con := ⟨39, [.k .str, .k .str], [.str], fun x => f39 N x.1 x.2.1⟩
theorem f39_s (N : Nat) : (f39_con N).Sound Try.prog :=
  Con.sound_of (c := f39_con N) (E := (f39_E N)) (idle := []) Try.func39 (by kernel_rfl) (by kernel_rfl) allNil allNil (fun x y h => (f39_t N x.1 x.2.1).trans h)
/-- pub-orthodrome/pub/gogeom/encoding/wkt.DoorTrimRight -/
noncomputable def f26_E (N : Nat) : Env := ⟨Try.prog, N, [f39_con N], [(0, ⟨[], [], [0, 1], [], none⟩), (1, ⟨[], [], [0, 1], [], none⟩)], kdL []⟩
def f26_g (N : Nat) (v1 : ByteArray) (v2 : ByteArray) : Option (ByteArray) :=
  ((f39 N v1 v2).bind fun v3 => (some v3))
def f26 (N : Nat) (v1 : ByteArray) (v2 : ByteArray) : Option (ByteArray) :=
  f26_g N v1 v2
set_option maxRecDepth 100000
theorem f26_t (N : Nat) (v1 : ByteArray) (v2 : ByteArray) : evF (f26_E N) [] Try.f26 [.k .str, .k .str] [.str] (v1, v2, ()) = f26 N v1 v2 := by
  exact (show evF (f26_E N) [] Try.f26 [.k .str, .k .str] [.str] (v1, v2, ()) = f26_g N v1 v2 from by kernel_rfl).trans (by rfl)
noncomputable def f26_con (N : Nat) : Con := ⟨26, [.k .str, .k .str], [.str], fun x => f26 N x.1 x.2.1⟩
theorem f26_s (N : Nat) : (f26_con N).Sound Try.prog :=
  Con.sound_of (c := f26_con N) (E := (f26_E N)) (idle := []) Try.func26 (by kernel_rfl) (by kernel_rfl) (allCons (f39_s N) allNil) allNil (fun x y h => (f26_t N x.1 x.2.1).trans h)
/-- pub-orthodrome/impl.TrimRight -/
noncomputable def f13_E (N : Nat) : Env := ⟨Try.prog, N, [f26_con N], [(0, ⟨[], [], [0, 1], [], none⟩), (1, ⟨[], [], [0, 1], [], none⟩)], kdL []⟩
def f13_g (N : Nat) (v1 : ByteArray) (v2 : ByteArray) : Option (ByteArray) :=
  ((f26 N v1 v2).bind fun v3 => (some v3))
def f13 (N : Nat) (v1 : ByteArray) (v2 : ByteArray) : Option (ByteArray) :=
  f13_g N v1 v2
set_option maxRecDepth 100000
theorem f13_t (N : Nat) (v1 : ByteArray) (v2 : ByteArray) : evF (f13_E N) [] Try.f13 [.k .str, .k .str] [.str] (v1, v2, ()) = f13 N v1 v2 := by
  exact (show evF (f13_E N) [] Try.f13 [.k .str, .k .str] [.str] (v1, v2, ()) = f13_g N v1 v2 from by kernel_rfl).trans (by rfl)
noncomputable def f13_con (N : Nat) : Con := ⟨13, [.k .str, .k .str], [.str], fun x => f13 N x.1 x.2.1⟩
theorem f13_s (N : Nat) : (f13_con N).Sound Try.prog :=
  Con.sound_of (c := f13_con N) (E := (f13_E N)) (idle := []) Try.func13 (by kernel_rfl) (by kernel_rfl) (allCons (f26_s N) allNil) allNil (fun x y h => (f13_t N x.1 x.2.1).trans h)
/-- pub-orthodrome/laws.FnTrimRight -/
noncomputable def f5_E (N : Nat) : Env := ⟨Try.prog, N, [f13_con N], [(0, ⟨[], [], [0, 1], [], none⟩), (1, ⟨[], [], [0, 1], [], none⟩), (2, ⟨[], [], [0, 1, 16], [], none⟩), (3, ⟨[], [], [0, 1], [], none⟩), (4, ⟨[], [], [0, 1, 24], [], none⟩), (5, ⟨[], [], [0, 1], [], none⟩), (6, ⟨[], [], [0, 1, 5], [], none⟩), (7, ⟨[], [], [0, 1, 5], [], none⟩), (8, ⟨[], [], [0, 1, 5], [], none⟩), (9, ⟨[], [], [0, 1, 5, 39], [], none⟩), (10, ⟨[], [], [0, 1], [], none⟩), (11, ⟨[], [], [0, 1, 6], [], none⟩), (12, ⟨[], [], [0, 1, 6], [], none⟩), (13, ⟨[], [], [0, 1, 6, 7], [], none⟩), (14, ⟨[], [], [0, 1, 6, 7, 8], [], none⟩), (15, ⟨[], [], [0, 1, 6, 7, 8], [], some N⟩), (16, ⟨[], [], [0, 1, 6, 7, 8], [], none⟩), (17, ⟨[], [], [0, 1, 6, 7], [], none⟩), (18, ⟨[], [], [0, 1, 6], [], none⟩), (19, ⟨[], [], [0, 1, 6], [], some N⟩)], kdL []⟩
def f5_g3 (N : Nat) (v1 : ByteArray) (v2 : ByteArray) (v15 : Int) (v19 : Int) (r2 : Bool → Int → Option (Bool)) (r1 : Int → Option (Bool)) (v22 : Bool) : Option (Bool) :=
  (r2 v22 (IntKind.i64.wrap (v19 + 1)))
def f5_j3 (N : Nat) (r2 : Bool → Int → Option (Bool)) (r1 : Int → Option (Bool)) (v1 : ByteArray) (v2 : ByteArray) (v15 : Int) (v19 : Int) (v22 : Bool) : Option (Bool) :=
  gate N (f5_g3 N v1 v2 v15 v19 r2 r1 v22)
def f5_g4 (N : Nat) (v1 : ByteArray) (v2 : ByteArray) (v15 : Int) : Option (Bool) :=
  (f13 N v1 v2).bind fun v23 => (chk2 0 v15 v1.size).bind fun v24 => bif (v23.toList == (v1.extract v24.1 v24.2).toList) then ((f13 N (⟨#[49, 48]⟩ : ByteArray) (⟨#[48]⟩ : ByteArray)).bind fun v25 => (some (v25.toList == (⟨#[49]⟩ : ByteArray).toList))) else (some false)
def f5_j4 (N : Nat) (v1 : ByteArray) (v2 : ByteArray) (v15 : Int) : Option (Bool) :=
  gate N (f5_g4 N v1 v2 v15)
def f5_g2 (N : Nat) (v1 : ByteArray) (v2 : ByteArray) (v15 : Int) (c3 : Int → Bool → Option (Bool)) (c4 : ByteArray → ByteArray → Int → Option (Bool)) (r2 : Bool → Int → Option (Bool)) (r1 : Int → Option (Bool)) (v18 : Bool) (v19 : Int) : Option (Bool) :=
  (bif (decide ((v19 : Int) < (v2.size : Int))) then (bif v18 then (c3 v19 true) else ((chk v19 v2.size).bind fun v20 => (chk (IntKind.i64.wrap (v15 - 1)) v1.size).bind fun v21 => (c3 v19 ((sbyte v2 v20) == (sbyte v1 v21))))) else (bif (!v18) then (c4 v1 v2 v15) else ((r1 (IntKind.i64.wrap (v15 - 1))))))
def f5_l2 (N : Nat) (r1 : Int → Option (Bool)) (v1 : ByteArray) (v2 : ByteArray) : Nat → Int → Bool → Int → Option (Bool)
  | 0, _, _, _ => none
  | n + 1, v15, v18, v19 => f5_g2 N v1 v2 v15 (f5_j3 N (f5_l2 N r1 v1 v2 n v15) r1 v1 v2 v15) (f5_j4 N) (f5_l2 N r1 v1 v2 n v15) r1 v18 v19
def f5_g1 (N : Nat) (v1 : ByteArray) (v2 : ByteArray) (c2 : Int → Bool → Int → Option (Bool)) (c4 : ByteArray → ByteArray → Int → Option (Bool)) (r1 : Int → Option (Bool)) (v15 : Int) : Option (Bool) :=
  (bif (decide ((v15 : Int) > 0)) then ((c2 v15 false 0)) else (c4 v1 v2 v15))
def f5_l1 (N : Nat) : Nat → ByteArray → ByteArray → Int → Option (Bool)
  | 0, _, _, _ => none
  | n + 1, v1, v2, v15 => f5_g1 N v1 v2 (f5_l2 N (f5_l1 N n v1 v2) v1 v2 N) (f5_j4 N) (f5_l1 N n v1 v2) v15
def f5_g0 (N : Nat) (v1 : ByteArray) (v2 : ByteArray) (c1 : ByteArray → ByteArray → Int → Option (Bool)) (r0 : Int → Option (Bool)) (v5 : Int) : Option (Bool) :=
  (bif (decide ((v5 : Int) < (IntKind.i64.wrap ((v1.size : Int) + (v2.size : Int))))) then ((sadd v1 v2).bind fun v6 => (chk v5 v6.size).bind fun v7 => (bif (decide (((sbyte v6 v7) : Int) > 127)) then (some true) else ((r0 (IntKind.i64.wrap (v5 + 1)))))) else ((c1 v1 v2 (v1.size : Int))))
def f5_l0 (N : Nat) : Nat → ByteArray → ByteArray → Int → Option (Bool)
  | 0, _, _, _ => none
  | n + 1, v1, v2, v5 => f5_g0 N v1 v2 (f5_l1 N N) (f5_l0 N n v1 v2) v5
def f5_g (N : Nat) (v1 : ByteArray) (v2 : ByteArray) (c0 : ByteArray → ByteArray → Int → Option (Bool)) : Option (Bool) :=
  (bif (decide (((v1.size : Int) : Int) > 2147483647)) then (some true) else (bif (decide (((v2.size : Int) : Int) > 2147483647)) then (some true) else (bif (decide (((v1.size : Int) : Int) > 2000)) then (some true) else (bif (decide (((v2.size : Int) : Int) > 100)) then (some true) else ((c0 v1 v2 0))))))
def f5 (N : Nat) (v1 : ByteArray) (v2 : ByteArray) : Option (Bool) :=
  f5_g N v1 v2 (f5_l0 N N)
set_option maxRecDepth 100000
noncomputable def f5_e3 (N : Nat) (m2 : Nat) (m1 : Nat) (v1 : ByteArray) (v2 : ByteArray) (v15 : Int) (v19 : Int) (v22 : Bool) : Option (HR [.bool]) :=
  gate N (evC (f5_E N) (codeAt (bodyOf Try.f5) [1, 1, 1, 1, 1, 0, 0, 0, 1, 0, 1, 0, 1, 0, 0, 1, 1]) ⟨[(0, .pv .str v1), (1, .pv .str v2), (6, .pv (.int .i64) v15), (7, .pv .bool v22), (8, .pv (.int .i64) v19)], [], []⟩ (kSeq (advOf (f5_E N) (codeAt (bodyOf Try.f5) [1, 1, 1, 1, 1, 0, 0, 0, 1, 0, 1, 0, 1, 0, 0])) (fun st K => loopN (advOf (f5_E N) (codeAt (bodyOf Try.f5) [1, 1, 1, 1, 1, 0, 0, 0, 1, 0, 1, 0, 1, 0, 0])) (evC (f5_E N) (codeAt (bodyOf Try.f5) [1, 1, 1, 1, 1, 0, 0, 0, 1, 0, 1, 0, 1, 0, 0])) m2 st K) (kBlock 4 (kSeq (advOf (f5_E N) (codeAt (bodyOf Try.f5) [1, 1, 1, 1, 1, 0, 0, 0, 1, 0, 1, 1])) (evC (f5_E N) (codeAt (bodyOf Try.f5) [1, 1, 1, 1, 1, 0, 0, 0, 1, 0, 1, 1])) (kBlock 3 (kSeq (advOf (f5_E N) (codeAt (bodyOf Try.f5) [1, 1, 1, 1, 1, 0, 0, 0])) (fun st K => loopN (advOf (f5_E N) (codeAt (bodyOf Try.f5) [1, 1, 1, 1, 1, 0, 0, 0])) (evC (f5_E N) (codeAt (bodyOf Try.f5) [1, 1, 1, 1, 1, 0, 0, 0])) m1 st K) (kBlock 2 (kSeq (advOf (f5_E N) (codeAt (bodyOf Try.f5) [1, 1, 1, 1, 1, 1])) (evC (f5_E N) (codeAt (bodyOf Try.f5) [1, 1, 1, 1, 1, 1])) (kEnd (f5_E N) [] Try.f5.results.toList [.bool])))))))))
noncomputable def f5_e4 (N : Nat) (v1 : ByteArray) (v2 : ByteArray) (v15 : Int) : Option (HR [.bool]) :=
  gate N (evC (f5_E N) (codeAt (bodyOf Try.f5) [1, 1, 1, 1, 1, 1]) ⟨[(0, .pv .str v1), (1, .pv .str v2), (6, .pv (.int .i64) v15)], [], []⟩ (kEnd (f5_E N) [] Try.f5.results.toList [.bool]))
noncomputable def f5_e2 (N : Nat) (m1 : Nat) (v1 : ByteArray) (v2 : ByteArray) (n : Nat) (v15 : Int) (v18 : Bool) (v19 : Int) : Option (HR [.bool]) :=
  loopN (advOf (f5_E N) (codeAt (bodyOf Try.f5) [1, 1, 1, 1, 1, 0, 0, 0, 1, 0, 1, 0, 1, 0, 0])) (evC (f5_E N) (codeAt (bodyOf Try.f5) [1, 1, 1, 1, 1, 0, 0, 0, 1, 0, 1, 0, 1, 0, 0])) n ⟨[(0, .pv .str v1), (1, .pv .str v2), (6, .pv (.int .i64) v15), (7, .pv .bool v18), (8, .pv (.int .i64) v19)], [], []⟩ (kBlock 4 (kSeq (advOf (f5_E N) (codeAt (bodyOf Try.f5) [1, 1, 1, 1, 1, 0, 0, 0, 1, 0, 1, 1])) (evC (f5_E N) (codeAt (bodyOf Try.f5) [1, 1, 1, 1, 1, 0, 0, 0, 1, 0, 1, 1])) (kBlock 3 (kSeq (advOf (f5_E N) (codeAt (bodyOf Try.f5) [1, 1, 1, 1, 1, 0, 0, 0])) (fun st K => loopN (advOf (f5_E N) (codeAt (bodyOf Try.f5) [1, 1, 1, 1, 1, 0, 0, 0])) (evC (f5_E N) (codeAt (bodyOf Try.f5) [1, 1, 1, 1, 1, 0, 0, 0])) m1 st K) (kBlock 2 (kSeq (advOf (f5_E N) (codeAt (bodyOf Try.f5) [1, 1, 1, 1, 1, 1])) (evC (f5_E N) (codeAt (bodyOf Try.f5) [1, 1, 1, 1, 1, 1])) (kEnd (f5_E N) [] Try.f5.results.toList [.bool])))))))
noncomputable def f5_e1 (N : Nat) (n : Nat) (v1 : ByteArray) (v2 : ByteArray) (v15 : Int) : Option (HR [.bool]) :=
  loopN (advOf (f5_E N) (codeAt (bodyOf Try.f5) [1, 1, 1, 1, 1, 0, 0, 0])) (evC (f5_E N) (codeAt (bodyOf Try.f5) [1, 1, 1, 1, 1, 0, 0, 0])) n ⟨[(0, .pv .str v1), (1, .pv .str v2), (6, .pv (.int .i64) v15)], [], []⟩ (kBlock 2 (kSeq (advOf (f5_E N) (codeAt (bodyOf Try.f5) [1, 1, 1, 1, 1, 1])) (evC (f5_E N) (codeAt (bodyOf Try.f5) [1, 1, 1, 1, 1, 1])) (kEnd (f5_E N) [] Try.f5.results.toList [.bool])))
noncomputable def f5_e0 (N : Nat) (n : Nat) (v1 : ByteArray) (v2 : ByteArray) (v5 : Int) : Option (HR [.bool]) :=
  loopN (advOf (f5_E N) (codeAt (bodyOf Try.f5) [1, 1, 1, 0, 1, 0, 0])) (evC (f5_E N) (codeAt (bodyOf Try.f5) [1, 1, 1, 0, 1, 0, 0])) n ⟨[(0, .pv .str v1), (1, .pv .str v2), (5, .pv (.int .i64) v5)], [], []⟩ (kBlock 0 (kSeq (advOf (f5_E N) (codeAt (bodyOf Try.f5) [1, 1, 1, 1])) (evC (f5_E N) (codeAt (bodyOf Try.f5) [1, 1, 1, 1])) (kEnd (f5_E N) [] Try.f5.results.toList [.bool])))
theorem f5_t3 (N : Nat) (m2 : Nat) (m1 : Nat) (v1 : ByteArray) (v2 : ByteArray) (v15 : Int) (v19 : Int) (v22 : Bool) : f5_e3 N m2 m1 v1 v2 v15 v19 v22 = f5_j3 N (f5_e2 N m1 v1 v2 m2 v15) (f5_e1 N m1 v1 v2) v1 v2 v15 v19 v22 := by
  exact (congrArg (gate N) (show evC (f5_E N) (codeAt (bodyOf Try.f5) [1, 1, 1, 1, 1, 0, 0, 0, 1, 0, 1, 0, 1, 0, 0, 1, 1]) ⟨[(0, .pv .str v1), (1, .pv .str v2), (6, .pv (.int .i64) v15), (7, .pv .bool v22), (8, .pv (.int .i64) v19)], [], []⟩ (kSeq (advOf (f5_E N) (codeAt (bodyOf Try.f5) [1, 1, 1, 1, 1, 0, 0, 0, 1, 0, 1, 0, 1, 0, 0])) (fun st K => loopN (advOf (f5_E N) (codeAt (bodyOf Try.f5) [1, 1, 1, 1, 1, 0, 0, 0, 1, 0, 1, 0, 1, 0, 0])) (evC (f5_E N) (codeAt (bodyOf Try.f5) [1, 1, 1, 1, 1, 0, 0, 0, 1, 0, 1, 0, 1, 0, 0])) m2 st K) (kBlock 4 (kSeq (advOf (f5_E N) (codeAt (bodyOf Try.f5) [1, 1, 1, 1, 1, 0, 0, 0, 1, 0, 1, 1])) (evC (f5_E N) (codeAt (bodyOf Try.f5) [1, 1, 1, 1, 1, 0, 0, 0, 1, 0, 1, 1])) (kBlock 3 (kSeq (advOf (f5_E N) (codeAt (bodyOf Try.f5) [1, 1, 1, 1, 1, 0, 0, 0])) (fun st K => loopN (advOf (f5_E N) (codeAt (bodyOf Try.f5) [1, 1, 1, 1, 1, 0, 0, 0])) (evC (f5_E N) (codeAt (bodyOf Try.f5) [1, 1, 1, 1, 1, 0, 0, 0])) m1 st K) (kBlock 2 (kSeq (advOf (f5_E N) (codeAt (bodyOf Try.f5) [1, 1, 1, 1, 1, 1])) (evC (f5_E N) (codeAt (bodyOf Try.f5) [1, 1, 1, 1, 1, 1])) (kEnd (f5_E N) [] Try.f5.results.toList [.bool])))))))) = f5_g3 N v1 v2 v15 v19 (f5_e2 N m1 v1 v2 m2 v15) (f5_e1 N m1 v1 v2) v22 from by kernel_rfl)).trans (by rfl)
theorem f5_t4 (N : Nat) (v1 : ByteArray) (v2 : ByteArray) (v15 : Int) : f5_e4 N v1 v2 v15 = f5_j4 N v1 v2 v15 := by
  exact (congrArg (gate N) (show evC (f5_E N) (codeAt (bodyOf Try.f5) [1, 1, 1, 1, 1, 1]) ⟨[(0, .pv .str v1), (1, .pv .str v2), (6, .pv (.int .i64) v15)], [], []⟩ (kEnd (f5_E N) [] Try.f5.results.toList [.bool]) = f5_g4 N v1 v2 v15 from by kernel_rfl)).trans (by rfl)
theorem f5_t2 (N : Nat) (m1 : Nat) (v1 : ByteArray) (v2 : ByteArray) : ∀ (n : Nat) (v15 : Int) (v18 : Bool) (v19 : Int), f5_e2 N m1 v1 v2 n v15 v18 v19 = f5_l2 N (f5_e1 N m1 v1 v2) v1 v2 n v15 v18 v19
  | 0, _, _, _ => rfl
  | n + 1, v15, v18, v19 => by
    have h3 : (f5_e3 N n m1 v1 v2 v15) = (f5_j3 N (f5_e2 N m1 v1 v2 n v15) (f5_e1 N m1 v1 v2) v1 v2 v15) := by funext v19 v22; exact f5_t3 N n m1 v1 v2 v15 v19 v22
    have h4 : (f5_e4 N) = (f5_j4 N) := by funext v1 v2 v15; exact f5_t4 N v1 v2 v15
    have h : f5_e2 N m1 v1 v2 n v15 = f5_l2 N (f5_e1 N m1 v1 v2) v1 v2 n v15 := by funext v18 v19; exact f5_t2 N m1 v1 v2 n v15 v18 v19
    exact (show f5_e2 N m1 v1 v2 (n + 1) v15 v18 v19 = f5_g2 N v1 v2 v15 (f5_e3 N n m1 v1 v2 v15) (f5_e4 N) (f5_e2 N m1 v1 v2 n v15) (f5_e1 N m1 v1 v2) v18 v19 from by kernel_rfl).trans (by rw [h3, h4, h]; rfl)
theorem f5_t1 (N : Nat) : ∀ (n : Nat) (v1 : ByteArray) (v2 : ByteArray) (v15 : Int), f5_e1 N n v1 v2 v15 = f5_l1 N n v1 v2 v15
  | 0, _, _, _ => rfl
  | n + 1, v1, v2, v15 => by
    have h2 : (f5_e2 N n v1 v2 N) = (f5_l2 N (f5_e1 N n v1 v2) v1 v2 N) := by funext v15 v18 v19; exact f5_t2 N n v1 v2 N v15 v18 v19
    have h4 : (f5_e4 N) = (f5_j4 N) := by funext v1 v2 v15; exact f5_t4 N v1 v2 v15
    have h : f5_e1 N n v1 v2 = f5_l1 N n v1 v2 := by funext v15; exact f5_t1 N n v1 v2 v15
    exact (show f5_e1 N (n + 1) v1 v2 v15 = f5_g1 N v1 v2 (f5_e2 N n v1 v2 N) (f5_e4 N) (f5_e1 N n v1 v2) v15 from by kernel_rfl).trans (by rw [h2, h4, h]; rfl)
theorem f5_t0 (N : Nat) : ∀ (n : Nat) (v1 : ByteArray) (v2 : ByteArray) (v5 : Int), f5_e0 N n v1 v2 v5 = f5_l0 N n v1 v2 v5
  | 0, _, _, _ => rfl
  | n + 1, v1, v2, v5 => by
    have h1 : (f5_e1 N N) = (f5_l1 N N) := by funext v1 v2 v15; exact f5_t1 N N v1 v2 v15
    have h : f5_e0 N n v1 v2 = f5_l0 N n v1 v2 := by funext v5; exact f5_t0 N n v1 v2 v5
    exact (show f5_e0 N (n + 1) v1 v2 v5 = f5_g0 N v1 v2 (f5_e1 N N) (f5_e0 N n v1 v2) v5 from by kernel_rfl).trans (by rw [h1, h]; rfl)
theorem f5_t (N : Nat) (v1 : ByteArray) (v2 : ByteArray) : evF (f5_E N) [] Try.f5 [.k .str, .k .str] [.bool] (v1, v2, ()) = f5 N v1 v2 := by
  have h0 : (f5_e0 N N) = (f5_l0 N N) := by funext v1 v2 v5; exact f5_t0 N N v1 v2 v5
  exact (show evF (f5_E N) [] Try.f5 [.k .str, .k .str] [.bool] (v1, v2, ()) = f5_g N v1 v2 (f5_e0 N N) from by kernel_rfl).trans (by rw [h0]; rfl)
noncomputable def f5_con (N : Nat) : Con := ⟨5, [.k .str, .k .str], [.bool], fun x => f5 N x.1 x.2.1⟩
theorem f5_s (N : Nat) : (f5_con N).Sound Try.prog :=
  Con.sound_of (c := f5_con N) (E := (f5_E N)) (idle := []) Try.func5 (by kernel_rfl) (by kernel_rfl) (allCons (f13_s N) allNil) allNil (fun x y h => (f5_t N x.1 x.2.1).trans h)
end Go.Proofs.Ytcppjdjimmnlkaa.FTrimRight
