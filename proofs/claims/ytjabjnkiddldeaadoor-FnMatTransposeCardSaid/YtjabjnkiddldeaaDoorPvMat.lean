/- The plain laws of FnMatDetMul and FnMatTranspose. -/
import Derived.Test.YtjabjnkiddldeaaDoorMD
import Derived.Test.YtjabjnkiddldeaaDoorPvGridMD
import Derived.Test.YtjabjnkiddldeaaDoorPv1
import Derived.Test.YtjabjnkiddldeaaDoorFl7
import Derived.KernelRfl
set_option linter.unusedVariables false
set_option linter.unusedSectionVars false
set_option linter.unusedSimpArgs false
set_option maxRecDepth 100000
namespace Go.Proofs.YtjabjnkiddldeaaDoor.PvMat
open Go.Av Go
open Go.Proofs.YtjabjnkiddldeaaDoor.MD
open Go.Proofs.YtjabjnkiddldeaaDoor.PvGridMD (grid In)
theorem b64 : Wh 4634204016564240384 64 := wh_lit _ _ (by decide +kernel) (by decide +kernel) (by decide +kernel) (by decide)
theorem b1024 : Wh 4652218415073722368 1024 := wh_lit _ _ (by decide +kernel) (by decide +kernel) (by decide +kernel) (by decide)
/-- A whole number that is at most so big. -/
def W (B : Nat) (x : Nat) (X : Int) : Prop := Wh x X ∧ X.natAbs ≤ B
theorem W.sub {A B x y : Nat} {X Y : Int} (hx : W A x X) (hy : W B y Y) (h : A + B ≤ 9007199254740992) : ∃ z, Ieee.double.sub x y = some z ∧ W (A + B) z (X - Y) := by
  obtain ⟨h1, h2⟩ := hx
  obtain ⟨h3, h4⟩ := hy
  obtain ⟨z, e, hz⟩ := sub_wh h1 h3 (by omega)
  exact ⟨z, e, hz, by omega⟩
theorem W.add {A B x y : Nat} {X Y : Int} (hx : W A x X) (hy : W B y Y) (h : A + B ≤ 9007199254740992) : ∃ z, Ieee.double.add x y = some z ∧ W (A + B) z (X + Y) := by
  obtain ⟨h1, h2⟩ := hx
  obtain ⟨h3, h4⟩ := hy
  obtain ⟨z, e, hz⟩ := add_wh h1 h3 (by omega)
  exact ⟨z, e, hz, by omega⟩
theorem W.mul {A B x y : Nat} {X Y : Int} (hx : W A x X) (hy : W B y Y) (h : A * B ≤ 9007199254740992) : ∃ z, Ieee.double.mul x y = some z ∧ W (A * B) z (X * Y) := by
  obtain ⟨h1, h2⟩ := hx
  obtain ⟨h3, h4⟩ := hy
  have : (X * Y).natAbs ≤ A * B := by rw [Int.natAbs_mul]; exact Nat.mul_le_mul h2 h4
  obtain ⟨z, e, hz⟩ := mul_wh h1 h3 (by omega)
  exact ⟨z, e, hz, this⟩
theorem W.of {B : Int} {C : Nat} {x : Nat} (h : In B x) (hB : B = C) : ∃ X : Int, W C x X := by
  obtain ⟨k, h1, h2, h3⟩ := h
  exact ⟨k, h1, by omega⟩
/-- A number that is at most so big. -/
def Z (B : Nat) (x : Int) : Prop := x.natAbs ≤ B
theorem Z.mul {A B : Nat} {x y : Int} (hx : Z A x) (hy : Z B y) : Z (A * B) (x * y) := by unfold Z; rw [Int.natAbs_mul]; exact Nat.mul_le_mul hx hy
theorem Z.add {A B : Nat} {x y : Int} (hx : Z A x) (hy : Z B y) : Z (A + B) (x + y) := by unfold Z at *; omega
theorem Z.sub {A B : Nat} {x y : Int} (hx : Z A x) (hy : Z B y) : Z (A + B) (x - y) := by unfold Z at *; omega
theorem Z.wr {B : Nat} {x : Int} (h : Z B x) (hB : B ≤ 4611686018427387904) : IntKind.i64.wrap x = x := by unfold Z at h; exact wrap_in (by omega)
theorem W.z {B x : Nat} {X : Int} (h : W B x X) : Z B X := h.2
section
variable (M : Nat)
theorem transpose_eq (a0 a1 a2 a3 a4 a5 a6 a7 a8 : Nat) : impl_MatTranspose (M + 16) (a0, a1, a2, a3, a4, a5, a6, a7, a8, ()) = some (a0, a3, a6, a1, a4, a7, a2, a5, a8, ()) := by kernel_rfl
theorem mulM_eq (a0 a1 a2 a3 a4 a5 a6 a7 a8 b0 b1 b2 b3 b4 b5 b6 b7 b8 : Nat) : r3_Mat_Mul (M + 16) ((), ()) ((a0, a1, a2, a3, a4, a5, a6, a7, a8, ()), ()) ((b0, b1, b2, b3, b4, b5, b6, b7, b8, ()), ()) = ((Ieee.double.mul a0 b0).bind fun w0 => (Ieee.double.mul a1 b3).bind fun w1 => (Ieee.double.add w0 w1).bind fun w2 => (Ieee.double.mul a2 b6).bind fun w3 => (Ieee.double.add w2 w3).bind fun w4 => (Ieee.double.mul a0 b1).bind fun w5 => (Ieee.double.mul a1 b4).bind fun w6 => (Ieee.double.add w5 w6).bind fun w7 => (Ieee.double.mul a2 b7).bind fun w8 => (Ieee.double.add w7 w8).bind fun w9 => (Ieee.double.mul a0 b2).bind fun w10 => (Ieee.double.mul a1 b5).bind fun w11 => (Ieee.double.add w10 w11).bind fun w12 => (Ieee.double.mul a2 b8).bind fun w13 => (Ieee.double.add w12 w13).bind fun w14 => (Ieee.double.mul a3 b0).bind fun w15 => (Ieee.double.mul a4 b3).bind fun w16 => (Ieee.double.add w15 w16).bind fun w17 => (Ieee.double.mul a5 b6).bind fun w18 => (Ieee.double.add w17 w18).bind fun w19 => (Ieee.double.mul a3 b1).bind fun w20 => (Ieee.double.mul a4 b4).bind fun w21 => (Ieee.double.add w20 w21).bind fun w22 => (Ieee.double.mul a5 b7).bind fun w23 => (Ieee.double.add w22 w23).bind fun w24 => (Ieee.double.mul a3 b2).bind fun w25 => (Ieee.double.mul a4 b5).bind fun w26 => (Ieee.double.add w25 w26).bind fun w27 => (Ieee.double.mul a5 b8).bind fun w28 => (Ieee.double.add w27 w28).bind fun w29 => (Ieee.double.mul a6 b0).bind fun w30 => (Ieee.double.mul a7 b3).bind fun w31 => (Ieee.double.add w30 w31).bind fun w32 => (Ieee.double.mul a8 b6).bind fun w33 => (Ieee.double.add w32 w33).bind fun w34 => (Ieee.double.mul a6 b1).bind fun w35 => (Ieee.double.mul a7 b4).bind fun w36 => (Ieee.double.add w35 w36).bind fun w37 => (Ieee.double.mul a8 b7).bind fun w38 => (Ieee.double.add w37 w38).bind fun w39 => (Ieee.double.mul a6 b2).bind fun w40 => (Ieee.double.mul a7 b5).bind fun w41 => (Ieee.double.add w40 w41).bind fun w42 => (Ieee.double.mul a8 b8).bind fun w43 => (Ieee.double.add w42 w43).bind fun w44 => some (((w4, w9, w14, w19, w24, w29, w34, w39, w44, ()), ()), ((a0, a1, a2, a3, a4, a5, a6, a7, a8, ()), ()), ((b0, b1, b2, b3, b4, b5, b6, b7, b8, ()), ()), ())) := by kernel_rfl
theorem mul_eq (a0 a1 a2 a3 a4 a5 a6 a7 a8 b0 b1 b2 b3 b4 b5 b6 b7 b8 : Nat) : impl_MatMul (M + 16) (a0, a1, a2, a3, a4, a5, a6, a7, a8, ()) (b0, b1, b2, b3, b4, b5, b6, b7, b8, ()) = (r3_Mat_Mul (M + 16) ((), ()) ((a0, a1, a2, a3, a4, a5, a6, a7, a8, ()), ()) ((b0, b1, b2, b3, b4, b5, b6, b7, b8, ()), ())).bind fun v => some (v.1.1.1, v.1.1.2.1, v.1.1.2.2.1, v.1.1.2.2.2.1, v.1.1.2.2.2.2.1, v.1.1.2.2.2.2.2.1, v.1.1.2.2.2.2.2.2.1, v.1.1.2.2.2.2.2.2.2.1, v.1.1.2.2.2.2.2.2.2.2.1, ()) := by kernel_rfl
theorem mul_w {B : Nat} (hB : B * B ≤ 1048576) {a0 a1 a2 a3 a4 a5 a6 a7 a8 b0 b1 b2 b3 b4 b5 b6 b7 b8 : Nat} {A0 A1 A2 A3 A4 A5 A6 A7 A8 B0 B1 B2 B3 B4 B5 B6 B7 B8 : Int} (ha0 : W B a0 A0) (ha1 : W B a1 A1) (ha2 : W B a2 A2) (ha3 : W B a3 A3) (ha4 : W B a4 A4) (ha5 : W B a5 A5) (ha6 : W B a6 A6) (ha7 : W B a7 A7) (ha8 : W B a8 A8) (hb0 : W B b0 B0) (hb1 : W B b1 B1) (hb2 : W B b2 B2) (hb3 : W B b3 B3) (hb4 : W B b4 B4) (hb5 : W B b5 B5) (hb6 : W B b6 B6) (hb7 : W B b7 B7) (hb8 : W B b8 B8) :
    ∃ c0 c1 c2 c3 c4 c5 c6 c7 c8, impl_MatMul (M + 16) (a0, a1, a2, a3, a4, a5, a6, a7, a8, ()) (b0, b1, b2, b3, b4, b5, b6, b7, b8, ()) = some (c0, c1, c2, c3, c4, c5, c6, c7, c8, ()) ∧ W (B * B + B * B + B * B) c0 (A0 * B0 + A1 * B3 + A2 * B6) ∧ W (B * B + B * B + B * B) c1 (A0 * B1 + A1 * B4 + A2 * B7) ∧ W (B * B + B * B + B * B) c2 (A0 * B2 + A1 * B5 + A2 * B8) ∧ W (B * B + B * B + B * B) c3 (A3 * B0 + A4 * B3 + A5 * B6) ∧ W (B * B + B * B + B * B) c4 (A3 * B1 + A4 * B4 + A5 * B7) ∧ W (B * B + B * B + B * B) c5 (A3 * B2 + A4 * B5 + A5 * B8) ∧ W (B * B + B * B + B * B) c6 (A6 * B0 + A7 * B3 + A8 * B6) ∧ W (B * B + B * B + B * B) c7 (A6 * B1 + A7 * B4 + A8 * B7) ∧ W (B * B + B * B + B * B) c8 (A6 * B2 + A7 * B5 + A8 * B8) := by
  rw [mul_eq, mulM_eq]
  obtain ⟨w0, e_w0, h_w0⟩ := W.mul ha0 hb0 (by first | decide | omega)
  rw [e_w0, Option.bind_some]
  obtain ⟨w1, e_w1, h_w1⟩ := W.mul ha1 hb3 (by first | decide | omega)
  rw [e_w1, Option.bind_some]
  obtain ⟨w2, e_w2, h_w2⟩ := W.add h_w0 h_w1 (by first | decide | omega)
  rw [e_w2, Option.bind_some]
  obtain ⟨w3, e_w3, h_w3⟩ := W.mul ha2 hb6 (by first | decide | omega)
  rw [e_w3, Option.bind_some]
  obtain ⟨w4, e_w4, h_w4⟩ := W.add h_w2 h_w3 (by first | decide | omega)
  rw [e_w4, Option.bind_some]
  obtain ⟨w5, e_w5, h_w5⟩ := W.mul ha0 hb1 (by first | decide | omega)
  rw [e_w5, Option.bind_some]
  obtain ⟨w6, e_w6, h_w6⟩ := W.mul ha1 hb4 (by first | decide | omega)
  rw [e_w6, Option.bind_some]
  obtain ⟨w7, e_w7, h_w7⟩ := W.add h_w5 h_w6 (by first | decide | omega)
  rw [e_w7, Option.bind_some]
  obtain ⟨w8, e_w8, h_w8⟩ := W.mul ha2 hb7 (by first | decide | omega)
  rw [e_w8, Option.bind_some]
  obtain ⟨w9, e_w9, h_w9⟩ := W.add h_w7 h_w8 (by first | decide | omega)
  rw [e_w9, Option.bind_some]
  obtain ⟨w10, e_w10, h_w10⟩ := W.mul ha0 hb2 (by first | decide | omega)
  rw [e_w10, Option.bind_some]
  obtain ⟨w11, e_w11, h_w11⟩ := W.mul ha1 hb5 (by first | decide | omega)
  rw [e_w11, Option.bind_some]
  obtain ⟨w12, e_w12, h_w12⟩ := W.add h_w10 h_w11 (by first | decide | omega)
  rw [e_w12, Option.bind_some]
  obtain ⟨w13, e_w13, h_w13⟩ := W.mul ha2 hb8 (by first | decide | omega)
  rw [e_w13, Option.bind_some]
  obtain ⟨w14, e_w14, h_w14⟩ := W.add h_w12 h_w13 (by first | decide | omega)
  rw [e_w14, Option.bind_some]
  obtain ⟨w15, e_w15, h_w15⟩ := W.mul ha3 hb0 (by first | decide | omega)
  rw [e_w15, Option.bind_some]
  obtain ⟨w16, e_w16, h_w16⟩ := W.mul ha4 hb3 (by first | decide | omega)
  rw [e_w16, Option.bind_some]
  obtain ⟨w17, e_w17, h_w17⟩ := W.add h_w15 h_w16 (by first | decide | omega)
  rw [e_w17, Option.bind_some]
  obtain ⟨w18, e_w18, h_w18⟩ := W.mul ha5 hb6 (by first | decide | omega)
  rw [e_w18, Option.bind_some]
  obtain ⟨w19, e_w19, h_w19⟩ := W.add h_w17 h_w18 (by first | decide | omega)
  rw [e_w19, Option.bind_some]
  obtain ⟨w20, e_w20, h_w20⟩ := W.mul ha3 hb1 (by first | decide | omega)
  rw [e_w20, Option.bind_some]
  obtain ⟨w21, e_w21, h_w21⟩ := W.mul ha4 hb4 (by first | decide | omega)
  rw [e_w21, Option.bind_some]
  obtain ⟨w22, e_w22, h_w22⟩ := W.add h_w20 h_w21 (by first | decide | omega)
  rw [e_w22, Option.bind_some]
  obtain ⟨w23, e_w23, h_w23⟩ := W.mul ha5 hb7 (by first | decide | omega)
  rw [e_w23, Option.bind_some]
  obtain ⟨w24, e_w24, h_w24⟩ := W.add h_w22 h_w23 (by first | decide | omega)
  rw [e_w24, Option.bind_some]
  obtain ⟨w25, e_w25, h_w25⟩ := W.mul ha3 hb2 (by first | decide | omega)
  rw [e_w25, Option.bind_some]
  obtain ⟨w26, e_w26, h_w26⟩ := W.mul ha4 hb5 (by first | decide | omega)
  rw [e_w26, Option.bind_some]
  obtain ⟨w27, e_w27, h_w27⟩ := W.add h_w25 h_w26 (by first | decide | omega)
  rw [e_w27, Option.bind_some]
  obtain ⟨w28, e_w28, h_w28⟩ := W.mul ha5 hb8 (by first | decide | omega)
  rw [e_w28, Option.bind_some]
  obtain ⟨w29, e_w29, h_w29⟩ := W.add h_w27 h_w28 (by first | decide | omega)
  rw [e_w29, Option.bind_some]
  obtain ⟨w30, e_w30, h_w30⟩ := W.mul ha6 hb0 (by first | decide | omega)
  rw [e_w30, Option.bind_some]
  obtain ⟨w31, e_w31, h_w31⟩ := W.mul ha7 hb3 (by first | decide | omega)
  rw [e_w31, Option.bind_some]
  obtain ⟨w32, e_w32, h_w32⟩ := W.add h_w30 h_w31 (by first | decide | omega)
  rw [e_w32, Option.bind_some]
  obtain ⟨w33, e_w33, h_w33⟩ := W.mul ha8 hb6 (by first | decide | omega)
  rw [e_w33, Option.bind_some]
  obtain ⟨w34, e_w34, h_w34⟩ := W.add h_w32 h_w33 (by first | decide | omega)
  rw [e_w34, Option.bind_some]
  obtain ⟨w35, e_w35, h_w35⟩ := W.mul ha6 hb1 (by first | decide | omega)
  rw [e_w35, Option.bind_some]
  obtain ⟨w36, e_w36, h_w36⟩ := W.mul ha7 hb4 (by first | decide | omega)
  rw [e_w36, Option.bind_some]
  obtain ⟨w37, e_w37, h_w37⟩ := W.add h_w35 h_w36 (by first | decide | omega)
  rw [e_w37, Option.bind_some]
  obtain ⟨w38, e_w38, h_w38⟩ := W.mul ha8 hb7 (by first | decide | omega)
  rw [e_w38, Option.bind_some]
  obtain ⟨w39, e_w39, h_w39⟩ := W.add h_w37 h_w38 (by first | decide | omega)
  rw [e_w39, Option.bind_some]
  obtain ⟨w40, e_w40, h_w40⟩ := W.mul ha6 hb2 (by first | decide | omega)
  rw [e_w40, Option.bind_some]
  obtain ⟨w41, e_w41, h_w41⟩ := W.mul ha7 hb5 (by first | decide | omega)
  rw [e_w41, Option.bind_some]
  obtain ⟨w42, e_w42, h_w42⟩ := W.add h_w40 h_w41 (by first | decide | omega)
  rw [e_w42, Option.bind_some]
  obtain ⟨w43, e_w43, h_w43⟩ := W.mul ha8 hb8 (by first | decide | omega)
  rw [e_w43, Option.bind_some]
  obtain ⟨w44, e_w44, h_w44⟩ := W.add h_w42 h_w43 (by first | decide | omega)
  rw [e_w44, Option.bind_some]
  exact ⟨w4, w9, w14, w19, w24, w29, w34, w39, w44, rfl, h_w4, h_w9, h_w14, h_w19, h_w24, h_w29, h_w34, h_w39, h_w44⟩
theorem det_eq0 (a0 a1 a2 a3 a4 a5 a6 a7 a8 : Nat) : r3_Mat_Det (M + 16) ((a0, a1, a2, a3, a4, a5, a6, a7, a8, ()), ()) = ((Ieee.double.mul a4 a8).bind fun w0 => (Ieee.double.mul a5 a7).bind fun w1 => (Ieee.double.sub w0 w1).bind fun w2 => (Ieee.double.mul a3 a8).bind fun w3 => (Ieee.double.mul a5 a6).bind fun w4 => (Ieee.double.sub w3 w4).bind fun w5 => (Ieee.double.mul a3 a7).bind fun w6 => (Ieee.double.mul a4 a6).bind fun w7 => (Ieee.double.sub w6 w7).bind fun w8 => (Ieee.double.mul a0 w2).bind fun w9 => (Ieee.double.mul a1 w5).bind fun w10 => (Ieee.double.sub w9 w10).bind fun w11 => (Ieee.double.mul a2 w8).bind fun w12 => (Ieee.double.add w11 w12).bind fun w13 => some (w13, ((a0, a1, a2, a3, a4, a5, a6, a7, a8, ()), ()), ())) := by kernel_rfl
theorem det_eq1 (a0 a1 a2 a3 a4 a5 a6 a7 a8 : Nat) : impl_MatDet (M + 16) (a0, a1, a2, a3, a4, a5, a6, a7, a8, ()) = (r3_Mat_Det (M + 16) ((a0, a1, a2, a3, a4, a5, a6, a7, a8, ()), ())).bind fun v => some v.1 := by kernel_rfl
theorem det_w {a0 a1 a2 a3 a4 a5 a6 a7 a8 : Nat} {A0 A1 A2 A3 A4 A5 A6 A7 A8 : Int} (ha0 : W 12288 a0 A0) (ha1 : W 12288 a1 A1) (ha2 : W 12288 a2 A2) (ha3 : W 12288 a3 A3) (ha4 : W 12288 a4 A4) (ha5 : W 12288 a5 A5) (ha6 : W 12288 a6 A6) (ha7 : W 12288 a7 A7) (ha8 : W 12288 a8 A8) : ∃ z, impl_MatDet (M + 16) (a0, a1, a2, a3, a4, a5, a6, a7, a8, ()) = some z ∧ Wh z (A0 * (A4 * A8 - A5 * A7) - A1 * (A3 * A8 - A5 * A6) + A2 * (A3 * A7 - A4 * A6)) := by
  rw [det_eq1, det_eq0]
  obtain ⟨w0, e_w0, h_w0⟩ := W.mul ha4 ha8 (by first | decide | omega)
  rw [e_w0, Option.bind_some]
  obtain ⟨w1, e_w1, h_w1⟩ := W.mul ha5 ha7 (by first | decide | omega)
  rw [e_w1, Option.bind_some]
  obtain ⟨w2, e_w2, h_w2⟩ := W.sub h_w0 h_w1 (by first | decide | omega)
  rw [e_w2, Option.bind_some]
  obtain ⟨w3, e_w3, h_w3⟩ := W.mul ha3 ha8 (by first | decide | omega)
  rw [e_w3, Option.bind_some]
  obtain ⟨w4, e_w4, h_w4⟩ := W.mul ha5 ha6 (by first | decide | omega)
  rw [e_w4, Option.bind_some]
  obtain ⟨w5, e_w5, h_w5⟩ := W.sub h_w3 h_w4 (by first | decide | omega)
  rw [e_w5, Option.bind_some]
  obtain ⟨w6, e_w6, h_w6⟩ := W.mul ha3 ha7 (by first | decide | omega)
  rw [e_w6, Option.bind_some]
  obtain ⟨w7, e_w7, h_w7⟩ := W.mul ha4 ha6 (by first | decide | omega)
  rw [e_w7, Option.bind_some]
  obtain ⟨w8, e_w8, h_w8⟩ := W.sub h_w6 h_w7 (by first | decide | omega)
  rw [e_w8, Option.bind_some]
  obtain ⟨w9, e_w9, h_w9⟩ := W.mul ha0 h_w2 (by first | decide | omega)
  rw [e_w9, Option.bind_some]
  obtain ⟨w10, e_w10, h_w10⟩ := W.mul ha1 h_w5 (by first | decide | omega)
  rw [e_w10, Option.bind_some]
  obtain ⟨w11, e_w11, h_w11⟩ := W.sub h_w9 h_w10 (by first | decide | omega)
  rw [e_w11, Option.bind_some]
  obtain ⟨w12, e_w12, h_w12⟩ := W.mul ha2 h_w8 (by first | decide | omega)
  rw [e_w12, Option.bind_some]
  obtain ⟨w13, e_w13, h_w13⟩ := W.add h_w11 h_w12 (by first | decide | omega)
  rw [e_w13, Option.bind_some]
  exact ⟨w13, rfl, h_w13.1⟩
theorem dn0 {a0 a1 a2 a3 a4 a5 a6 a7 a8 : Nat} {K : Int} (h : W 64 a0 K) : laws_detOf_1 (M + 16) 0 (a0, a1, a2, a3, a4, a5, a6, a7, a8, ()) = some (K, ()) := by
  show (floatToIntVal .f64 a0 .i64).bind (fun v => some (v, ())) = _
  rw [f2i_wh h.1 (by have := h.2; omega)]
  rfl
theorem dn1 {a0 a1 a2 a3 a4 a5 a6 a7 a8 : Nat} {K : Int} (h : W 64 a1 K) : laws_detOf_1 (M + 16) 1 (a0, a1, a2, a3, a4, a5, a6, a7, a8, ()) = some (K, ()) := by
  show (floatToIntVal .f64 a1 .i64).bind (fun v => some (v, ())) = _
  rw [f2i_wh h.1 (by have := h.2; omega)]
  rfl
theorem dn2 {a0 a1 a2 a3 a4 a5 a6 a7 a8 : Nat} {K : Int} (h : W 64 a2 K) : laws_detOf_1 (M + 16) 2 (a0, a1, a2, a3, a4, a5, a6, a7, a8, ()) = some (K, ()) := by
  show (floatToIntVal .f64 a2 .i64).bind (fun v => some (v, ())) = _
  rw [f2i_wh h.1 (by have := h.2; omega)]
  rfl
theorem dn3 {a0 a1 a2 a3 a4 a5 a6 a7 a8 : Nat} {K : Int} (h : W 64 a3 K) : laws_detOf_1 (M + 16) 3 (a0, a1, a2, a3, a4, a5, a6, a7, a8, ()) = some (K, ()) := by
  show (floatToIntVal .f64 a3 .i64).bind (fun v => some (v, ())) = _
  rw [f2i_wh h.1 (by have := h.2; omega)]
  rfl
theorem dn4 {a0 a1 a2 a3 a4 a5 a6 a7 a8 : Nat} {K : Int} (h : W 64 a4 K) : laws_detOf_1 (M + 16) 4 (a0, a1, a2, a3, a4, a5, a6, a7, a8, ()) = some (K, ()) := by
  show (floatToIntVal .f64 a4 .i64).bind (fun v => some (v, ())) = _
  rw [f2i_wh h.1 (by have := h.2; omega)]
  rfl
theorem dn5 {a0 a1 a2 a3 a4 a5 a6 a7 a8 : Nat} {K : Int} (h : W 64 a5 K) : laws_detOf_1 (M + 16) 5 (a0, a1, a2, a3, a4, a5, a6, a7, a8, ()) = some (K, ()) := by
  show (floatToIntVal .f64 a5 .i64).bind (fun v => some (v, ())) = _
  rw [f2i_wh h.1 (by have := h.2; omega)]
  rfl
theorem dn6 {a0 a1 a2 a3 a4 a5 a6 a7 a8 : Nat} {K : Int} (h : W 64 a6 K) : laws_detOf_1 (M + 16) 6 (a0, a1, a2, a3, a4, a5, a6, a7, a8, ()) = some (K, ()) := by
  show (floatToIntVal .f64 a6 .i64).bind (fun v => some (v, ())) = _
  rw [f2i_wh h.1 (by have := h.2; omega)]
  rfl
theorem dn7 {a0 a1 a2 a3 a4 a5 a6 a7 a8 : Nat} {K : Int} (h : W 64 a7 K) : laws_detOf_1 (M + 16) 7 (a0, a1, a2, a3, a4, a5, a6, a7, a8, ()) = some (K, ()) := by
  show (floatToIntVal .f64 a7 .i64).bind (fun v => some (v, ())) = _
  rw [f2i_wh h.1 (by have := h.2; omega)]
  rfl
theorem dn8 {a0 a1 a2 a3 a4 a5 a6 a7 a8 : Nat} {K : Int} (h : W 64 a8 K) : laws_detOf_1 (M + 16) 8 (a0, a1, a2, a3, a4, a5, a6, a7, a8, ()) = some (K, ()) := by
  show (floatToIntVal .f64 a8 .i64).bind (fun v => some (v, ())) = _
  rw [f2i_wh h.1 (by have := h.2; omega)]
  rfl
theorem detOf_w {a0 a1 a2 a3 a4 a5 a6 a7 a8 : Nat} {A0 A1 A2 A3 A4 A5 A6 A7 A8 : Int} (ha0 : W 64 a0 A0) (ha1 : W 64 a1 A1) (ha2 : W 64 a2 A2) (ha3 : W 64 a3 A3) (ha4 : W 64 a4 A4) (ha5 : W 64 a5 A5) (ha6 : W 64 a6 A6) (ha7 : W 64 a7 A7) (ha8 : W 64 a8 A8) : laws_detOf (M + 16) (a0, a1, a2, a3, a4, a5, a6, a7, a8, ()) = some (A0 * (A4 * A8 - A5 * A7) - A1 * (A3 * A8 - A5 * A6) + A2 * (A3 * A7 - A4 * A6)) ∧ Z 1572864 (A0 * (A4 * A8 - A5 * A7) - A1 * (A3 * A8 - A5 * A6) + A2 * (A3 * A7 - A4 * A6)) := by
  unfold laws_detOf laws_detOf_g
  show ((laws_detOf_1 (M + 16) 0 (a0, a1, a2, a3, a4, a5, a6, a7, a8, ())).bind fun q0 => (laws_detOf_1 (M + 16) 4 (a0, a1, a2, a3, a4, a5, a6, a7, a8, ())).bind fun q1 => (laws_detOf_1 (M + 16) 8 (a0, a1, a2, a3, a4, a5, a6, a7, a8, ())).bind fun q2 => (laws_detOf_1 (M + 16) 5 (a0, a1, a2, a3, a4, a5, a6, a7, a8, ())).bind fun q3 => (laws_detOf_1 (M + 16) 7 (a0, a1, a2, a3, a4, a5, a6, a7, a8, ())).bind fun q4 => (laws_detOf_1 (M + 16) 1 (a0, a1, a2, a3, a4, a5, a6, a7, a8, ())).bind fun q5 => (laws_detOf_1 (M + 16) 3 (a0, a1, a2, a3, a4, a5, a6, a7, a8, ())).bind fun q6 => (laws_detOf_1 (M + 16) 8 (a0, a1, a2, a3, a4, a5, a6, a7, a8, ())).bind fun q7 => (laws_detOf_1 (M + 16) 5 (a0, a1, a2, a3, a4, a5, a6, a7, a8, ())).bind fun q8 => (laws_detOf_1 (M + 16) 6 (a0, a1, a2, a3, a4, a5, a6, a7, a8, ())).bind fun q9 => (laws_detOf_1 (M + 16) 2 (a0, a1, a2, a3, a4, a5, a6, a7, a8, ())).bind fun q10 => (laws_detOf_1 (M + 16) 3 (a0, a1, a2, a3, a4, a5, a6, a7, a8, ())).bind fun q11 => (laws_detOf_1 (M + 16) 7 (a0, a1, a2, a3, a4, a5, a6, a7, a8, ())).bind fun q12 => (laws_detOf_1 (M + 16) 4 (a0, a1, a2, a3, a4, a5, a6, a7, a8, ())).bind fun q13 => (laws_detOf_1 (M + 16) 6 (a0, a1, a2, a3, a4, a5, a6, a7, a8, ())).bind fun q14 => some (IntKind.i64.wrap ((IntKind.i64.wrap ((IntKind.i64.wrap (q0.1 * (IntKind.i64.wrap ((IntKind.i64.wrap (q1.1 * q2.1)) - (IntKind.i64.wrap (q3.1 * q4.1)))))) - (IntKind.i64.wrap (q5.1 * (IntKind.i64.wrap ((IntKind.i64.wrap (q6.1 * q7.1)) - (IntKind.i64.wrap (q8.1 * q9.1)))))))) + (IntKind.i64.wrap (q10.1 * (IntKind.i64.wrap ((IntKind.i64.wrap (q11.1 * q12.1)) - (IntKind.i64.wrap (q13.1 * q14.1))))))))) = _ ∧ _
  rw [dn0 M ha0, dn1 M ha1, dn2 M ha2, dn3 M ha3, dn4 M ha4, dn5 M ha5, dn6 M ha6, dn7 M ha7, dn8 M ha8]
  simp only [Option.bind_some]
  have p1 := Z.mul ha4.z ha8.z
  have p2 := Z.mul ha5.z ha7.z
  have d1 := Z.sub p1 p2
  have t1 := Z.mul ha0.z d1
  have p3 := Z.mul ha3.z ha8.z
  have p4 := Z.mul ha5.z ha6.z
  have d2 := Z.sub p3 p4
  have t2 := Z.mul ha1.z d2
  have p5 := Z.mul ha3.z ha7.z
  have p6 := Z.mul ha4.z ha6.z
  have d3 := Z.sub p5 p6
  have t3 := Z.mul ha2.z d3
  have u1 := Z.sub t1 t2
  have u2 := Z.add u1 t3
  rw [p1.wr (by decide), p2.wr (by decide), d1.wr (by decide), t1.wr (by decide), p3.wr (by decide), p4.wr (by decide), d2.wr (by decide), t2.wr (by decide), p5.wr (by decide), p6.wr (by decide), d3.wr (by decide), t3.wr (by decide), u1.wr (by decide), u2.wr (by decide)]
  exact ⟨rfl, u2⟩
theorem detmul_eq (A0 A1 A2 A3 A4 A5 A6 A7 A8 B0 B1 B2 B3 B4 B5 B6 B7 B8 : Int) :
  (A0 * B0 + A1 * B3 + A2 * B6)*((A3 * B1 + A4 * B4 + A5 * B7)*(A6 * B2 + A7 * B5 + A8 * B8)-(A3 * B2 + A4 * B5 + A5 * B8)*(A6 * B1 + A7 * B4 + A8 * B7))-(A0 * B1 + A1 * B4 + A2 * B7)*((A3 * B0 + A4 * B3 + A5 * B6)*(A6 * B2 + A7 * B5 + A8 * B8)-(A3 * B2 + A4 * B5 + A5 * B8)*(A6 * B0 + A7 * B3 + A8 * B6))+(A0 * B2 + A1 * B5 + A2 * B8)*((A3 * B0 + A4 * B3 + A5 * B6)*(A6 * B1 + A7 * B4 + A8 * B7)-(A3 * B1 + A4 * B4 + A5 * B7)*(A6 * B0 + A7 * B3 + A8 * B6)) = (A0 * (A4 * A8 - A5 * A7) - A1 * (A3 * A8 - A5 * A6) + A2 * (A3 * A7 - A4 * A6))*(B0 * (B4 * B8 - B5 * B7) - B1 * (B3 * B8 - B5 * B6) + B2 * (B3 * B7 - B4 * B6)) := by grind
theorem law_det_eq (a0 a1 a2 a3 a4 a5 a6 a7 a8 b0 b1 b2 b3 b4 b5 b6 b7 b8 : Nat) : laws_FnMatDetMul (M + 16) (a0, a1, a2, a3, a4, a5, a6, a7, a8, ()) (b0, b1, b2, b3, b4, b5, b6, b7, b8, ()) = ((spec_Grid (M + 16) [[a0, a1, a2, a3, a4, a5, a6, a7, a8], [b0, b1, b2, b3, b4, b5, b6, b7, b8]] 9 4634204016564240384).bind fun v5 => (bif (!v5) then (some true) else ((impl_MatMul (M + 16) (a0, a1, a2, a3, a4, a5, a6, a7, a8, ()) (b0, b1, b2, b3, b4, b5, b6, b7, b8, ())).bind fun v6 => (impl_MatDet (M + 16) v6).bind fun v7 => (laws_detOf (M + 16) (a0, a1, a2, a3, a4, a5, a6, a7, a8, ())).bind fun v8 => (laws_detOf (M + 16) (b0, b1, b2, b3, b4, b5, b6, b7, b8, ())).bind fun v9 => (some (feq v7 (i2f (IntKind.i64.wrap (v8 * v9)))))))) := by kernel_rfl
theorem law_det0 (hM : M + 16 = 18446744073709551616) (a0 a1 a2 a3 a4 a5 a6 a7 a8 b0 b1 b2 b3 b4 b5 b6 b7 b8 : Nat) : laws_FnMatDetMul (M + 16) (a0, a1, a2, a3, a4, a5, a6, a7, a8, ()) (b0, b1, b2, b3, b4, b5, b6, b7, b8, ()) = some true := by
  rw [law_det_eq]
  obtain ⟨s, g1, g2⟩ := grid (N := M + 16) b64 (by decide) (v2 := 9) [[a0, a1, a2, a3, a4, a5, a6, a7, a8], [b0, b1, b2, b3, b4, b5, b6, b7, b8]] (by simp) (by simp) (by omega) (by simp) (by simp)
  rw [g1, Option.bind_some]
  cases s with
  | false => rfl
  | true =>
    have g3 := (g2 rfl).2
    obtain ⟨A0, ha0⟩ := W.of (C := 64) ((g3 [a0, a1, a2, a3, a4, a5, a6, a7, a8] (by simp)).2 a0 (by simp)) rfl
    obtain ⟨A1, ha1⟩ := W.of (C := 64) ((g3 [a0, a1, a2, a3, a4, a5, a6, a7, a8] (by simp)).2 a1 (by simp)) rfl
    obtain ⟨A2, ha2⟩ := W.of (C := 64) ((g3 [a0, a1, a2, a3, a4, a5, a6, a7, a8] (by simp)).2 a2 (by simp)) rfl
    obtain ⟨A3, ha3⟩ := W.of (C := 64) ((g3 [a0, a1, a2, a3, a4, a5, a6, a7, a8] (by simp)).2 a3 (by simp)) rfl
    obtain ⟨A4, ha4⟩ := W.of (C := 64) ((g3 [a0, a1, a2, a3, a4, a5, a6, a7, a8] (by simp)).2 a4 (by simp)) rfl
    obtain ⟨A5, ha5⟩ := W.of (C := 64) ((g3 [a0, a1, a2, a3, a4, a5, a6, a7, a8] (by simp)).2 a5 (by simp)) rfl
    obtain ⟨A6, ha6⟩ := W.of (C := 64) ((g3 [a0, a1, a2, a3, a4, a5, a6, a7, a8] (by simp)).2 a6 (by simp)) rfl
    obtain ⟨A7, ha7⟩ := W.of (C := 64) ((g3 [a0, a1, a2, a3, a4, a5, a6, a7, a8] (by simp)).2 a7 (by simp)) rfl
    obtain ⟨A8, ha8⟩ := W.of (C := 64) ((g3 [a0, a1, a2, a3, a4, a5, a6, a7, a8] (by simp)).2 a8 (by simp)) rfl
    obtain ⟨B0, hb0⟩ := W.of (C := 64) ((g3 [b0, b1, b2, b3, b4, b5, b6, b7, b8] (by simp)).2 b0 (by simp)) rfl
    obtain ⟨B1, hb1⟩ := W.of (C := 64) ((g3 [b0, b1, b2, b3, b4, b5, b6, b7, b8] (by simp)).2 b1 (by simp)) rfl
    obtain ⟨B2, hb2⟩ := W.of (C := 64) ((g3 [b0, b1, b2, b3, b4, b5, b6, b7, b8] (by simp)).2 b2 (by simp)) rfl
    obtain ⟨B3, hb3⟩ := W.of (C := 64) ((g3 [b0, b1, b2, b3, b4, b5, b6, b7, b8] (by simp)).2 b3 (by simp)) rfl
    obtain ⟨B4, hb4⟩ := W.of (C := 64) ((g3 [b0, b1, b2, b3, b4, b5, b6, b7, b8] (by simp)).2 b4 (by simp)) rfl
    obtain ⟨B5, hb5⟩ := W.of (C := 64) ((g3 [b0, b1, b2, b3, b4, b5, b6, b7, b8] (by simp)).2 b5 (by simp)) rfl
    obtain ⟨B6, hb6⟩ := W.of (C := 64) ((g3 [b0, b1, b2, b3, b4, b5, b6, b7, b8] (by simp)).2 b6 (by simp)) rfl
    obtain ⟨B7, hb7⟩ := W.of (C := 64) ((g3 [b0, b1, b2, b3, b4, b5, b6, b7, b8] (by simp)).2 b7 (by simp)) rfl
    obtain ⟨B8, hb8⟩ := W.of (C := 64) ((g3 [b0, b1, b2, b3, b4, b5, b6, b7, b8] (by simp)).2 b8 (by simp)) rfl
    obtain ⟨c0, c1, c2, c3, c4, c5, c6, c7, c8, e1, k0, k1, k2, k3, k4, k5, k6, k7, k8⟩ := mul_w M (B := 64) (by decide) ha0 ha1 ha2 ha3 ha4 ha5 ha6 ha7 ha8 hb0 hb1 hb2 hb3 hb4 hb5 hb6 hb7 hb8
    obtain ⟨z, e2, hz⟩ := det_w M k0 k1 k2 k3 k4 k5 k6 k7 k8
    obtain ⟨e3, z3⟩ := detOf_w M ha0 ha1 ha2 ha3 ha4 ha5 ha6 ha7 ha8
    obtain ⟨e4, z4⟩ := detOf_w M hb0 hb1 hb2 hb3 hb4 hb5 hb6 hb7 hb8
    have zz := Z.mul z3 z4
    simp only [Bool.not_true, cond_false, e1, e2, e3, e4, Option.bind_some]
    rw [zz.wr (by decide), feq_wh hz (i2f_wh _ (Nat.le_trans zz (by decide))), detmul_eq]
    simp
theorem entries_eq (a0 a1 a2 a3 a4 a5 a6 a7 a8 b0 b1 b2 b3 b4 b5 b6 b7 b8 : Nat) : laws_entries (M + 16) [(a0, a1, a2, a3, a4, a5, a6, a7, a8, ()), (b0, b1, b2, b3, b4, b5, b6, b7, b8, ())] = ((spec_Grid (M + 16) [[a0, a1, a2, a3, a4, a5, a6, a7, a8]] 9 4652218415073722368).bind fun v8 => (bif (!v8) then (some false) else (spec_Grid (M + 16) [[b0, b1, b2, b3, b4, b5, b6, b7, b8]] 9 4652218415073722368).bind fun v8 => (bif (!v8) then (some false) else some true))) := by kernel_rfl
theorem law_tr_eq (a0 a1 a2 a3 a4 a5 a6 a7 a8 b0 b1 b2 b3 b4 b5 b6 b7 b8 : Nat) : laws_FnMatTranspose (M + 16) (a0, a1, a2, a3, a4, a5, a6, a7, a8, ()) (b0, b1, b2, b3, b4, b5, b6, b7, b8, ()) = ((laws_entries (M + 16) [(a0, a1, a2, a3, a4, a5, a6, a7, a8, ()), (b0, b1, b2, b3, b4, b5, b6, b7, b8, ())]).bind fun v3 => bif (!v3) then some true else (bif fne a0 a0 then some false else (bif fne a3 a3 then some false else (bif fne a6 a6 then some false else (bif fne a1 a1 then some false else (bif fne a4 a4 then some false else (bif fne a7 a7 then some false else (bif fne a2 a2 then some false else (bif fne a5 a5 then some false else (bif fne a8 a8 then some false else ((impl_MatMul (M + 16) (a0, a1, a2, a3, a4, a5, a6, a7, a8, ()) (b0, b1, b2, b3, b4, b5, b6, b7, b8, ())).bind fun v12 => (impl_MatTranspose (M + 16) v12).bind fun v13 => (impl_MatMul (M + 16) (b0, b3, b6, b1, b4, b7, b2, b5, b8, ()) (a0, a3, a6, a1, a4, a7, a2, a5, a8, ())).bind fun v15 => some ((feq v13.1 v15.1) && ((feq v13.2.1 v15.2.1) && ((feq v13.2.2.1 v15.2.2.1) && ((feq v13.2.2.2.1 v15.2.2.2.1) && ((feq v13.2.2.2.2.1 v15.2.2.2.2.1) && ((feq v13.2.2.2.2.2.1 v15.2.2.2.2.2.1) && ((feq v13.2.2.2.2.2.2.1 v15.2.2.2.2.2.2.1) && ((feq v13.2.2.2.2.2.2.2.1 v15.2.2.2.2.2.2.2.1) && ((feq v13.2.2.2.2.2.2.2.2.1 v15.2.2.2.2.2.2.2.2.1) && true)))))))))))))))))))) := by kernel_rfl
theorem fne_self {B x : Nat} {X : Int} (h : W B x X) : fne x x = false := by
  have := feq_wh h.1 h.1
  unfold feq at this
  unfold fne
  revert this
  cases Ieee.double.order x x with
  | none => simp
  | some o => cases o <;> simp
theorem law_tr0 (hM : M + 16 = 18446744073709551616) (a0 a1 a2 a3 a4 a5 a6 a7 a8 b0 b1 b2 b3 b4 b5 b6 b7 b8 : Nat) : laws_FnMatTranspose (M + 16) (a0, a1, a2, a3, a4, a5, a6, a7, a8, ()) (b0, b1, b2, b3, b4, b5, b6, b7, b8, ()) = some true := by
  rw [law_tr_eq, entries_eq]
  obtain ⟨s, g1, g2⟩ := grid (N := M + 16) b1024 (by decide) (v2 := 9) [[a0, a1, a2, a3, a4, a5, a6, a7, a8]] (by simp) (by simp) (by omega) (by simp) (by simp)
  rw [g1, Option.bind_some]
  cases s with
  | false => rfl
  | true =>
  obtain ⟨s, g3, g4⟩ := grid (N := M + 16) b1024 (by decide) (v2 := 9) [[b0, b1, b2, b3, b4, b5, b6, b7, b8]] (by simp) (by simp) (by omega) (by simp) (by simp)
  simp only [Bool.not_true, cond_false]
  rw [g3, Option.bind_some]
  cases s with
  | false => rfl
  | true =>
    have g5 := (g2 rfl).2
    have g6 := (g4 rfl).2
    obtain ⟨A0, ha0⟩ := W.of (C := 1024) ((g5 [a0, a1, a2, a3, a4, a5, a6, a7, a8] (by simp)).2 a0 (by simp)) rfl
    obtain ⟨A1, ha1⟩ := W.of (C := 1024) ((g5 [a0, a1, a2, a3, a4, a5, a6, a7, a8] (by simp)).2 a1 (by simp)) rfl
    obtain ⟨A2, ha2⟩ := W.of (C := 1024) ((g5 [a0, a1, a2, a3, a4, a5, a6, a7, a8] (by simp)).2 a2 (by simp)) rfl
    obtain ⟨A3, ha3⟩ := W.of (C := 1024) ((g5 [a0, a1, a2, a3, a4, a5, a6, a7, a8] (by simp)).2 a3 (by simp)) rfl
    obtain ⟨A4, ha4⟩ := W.of (C := 1024) ((g5 [a0, a1, a2, a3, a4, a5, a6, a7, a8] (by simp)).2 a4 (by simp)) rfl
    obtain ⟨A5, ha5⟩ := W.of (C := 1024) ((g5 [a0, a1, a2, a3, a4, a5, a6, a7, a8] (by simp)).2 a5 (by simp)) rfl
    obtain ⟨A6, ha6⟩ := W.of (C := 1024) ((g5 [a0, a1, a2, a3, a4, a5, a6, a7, a8] (by simp)).2 a6 (by simp)) rfl
    obtain ⟨A7, ha7⟩ := W.of (C := 1024) ((g5 [a0, a1, a2, a3, a4, a5, a6, a7, a8] (by simp)).2 a7 (by simp)) rfl
    obtain ⟨A8, ha8⟩ := W.of (C := 1024) ((g5 [a0, a1, a2, a3, a4, a5, a6, a7, a8] (by simp)).2 a8 (by simp)) rfl
    obtain ⟨B0, hb0⟩ := W.of (C := 1024) ((g6 [b0, b1, b2, b3, b4, b5, b6, b7, b8] (by simp)).2 b0 (by simp)) rfl
    obtain ⟨B1, hb1⟩ := W.of (C := 1024) ((g6 [b0, b1, b2, b3, b4, b5, b6, b7, b8] (by simp)).2 b1 (by simp)) rfl
    obtain ⟨B2, hb2⟩ := W.of (C := 1024) ((g6 [b0, b1, b2, b3, b4, b5, b6, b7, b8] (by simp)).2 b2 (by simp)) rfl
    obtain ⟨B3, hb3⟩ := W.of (C := 1024) ((g6 [b0, b1, b2, b3, b4, b5, b6, b7, b8] (by simp)).2 b3 (by simp)) rfl
    obtain ⟨B4, hb4⟩ := W.of (C := 1024) ((g6 [b0, b1, b2, b3, b4, b5, b6, b7, b8] (by simp)).2 b4 (by simp)) rfl
    obtain ⟨B5, hb5⟩ := W.of (C := 1024) ((g6 [b0, b1, b2, b3, b4, b5, b6, b7, b8] (by simp)).2 b5 (by simp)) rfl
    obtain ⟨B6, hb6⟩ := W.of (C := 1024) ((g6 [b0, b1, b2, b3, b4, b5, b6, b7, b8] (by simp)).2 b6 (by simp)) rfl
    obtain ⟨B7, hb7⟩ := W.of (C := 1024) ((g6 [b0, b1, b2, b3, b4, b5, b6, b7, b8] (by simp)).2 b7 (by simp)) rfl
    obtain ⟨B8, hb8⟩ := W.of (C := 1024) ((g6 [b0, b1, b2, b3, b4, b5, b6, b7, b8] (by simp)).2 b8 (by simp)) rfl
    obtain ⟨c0, c1, c2, c3, c4, c5, c6, c7, c8, e1, k0, k1, k2, k3, k4, k5, k6, k7, k8⟩ := mul_w M (B := 1024) (by decide) ha0 ha1 ha2 ha3 ha4 ha5 ha6 ha7 ha8 hb0 hb1 hb2 hb3 hb4 hb5 hb6 hb7 hb8
    obtain ⟨d0, d1, d2, d3, d4, d5, d6, d7, d8, e2, j0, j1, j2, j3, j4, j5, j6, j7, j8⟩ := mul_w M (B := 1024) (by decide) hb0 hb3 hb6 hb1 hb4 hb7 hb2 hb5 hb8 ha0 ha3 ha6 ha1 ha4 ha7 ha2 ha5 ha8
    rw [fne_self ha0, fne_self ha3, fne_self ha6, fne_self ha1, fne_self ha4, fne_self ha7, fne_self ha2, fne_self ha5, fne_self ha8]
    simp only [cond_false, cond_true, Bool.not_true, Option.bind_some, e1, e2, transpose_eq]
    rw [feq_wh k0.1 j0.1, feq_wh k3.1 j1.1, feq_wh k6.1 j2.1, feq_wh k1.1 j3.1, feq_wh k4.1 j4.1, feq_wh k7.1 j5.1, feq_wh k2.1 j6.1, feq_wh k5.1 j7.1, feq_wh k8.1 j8.1]
    rw [decide_eq_true (show A0 * B0 + A1 * B3 + A2 * B6 = B0 * A0 + B3 * A1 + B6 * A2 by rw [Int.mul_comm A0 B0, Int.mul_comm A1 B3, Int.mul_comm A2 B6]), decide_eq_true (show A3 * B0 + A4 * B3 + A5 * B6 = B0 * A3 + B3 * A4 + B6 * A5 by rw [Int.mul_comm A3 B0, Int.mul_comm A4 B3, Int.mul_comm A5 B6]), decide_eq_true (show A6 * B0 + A7 * B3 + A8 * B6 = B0 * A6 + B3 * A7 + B6 * A8 by rw [Int.mul_comm A6 B0, Int.mul_comm A7 B3, Int.mul_comm A8 B6]), decide_eq_true (show A0 * B1 + A1 * B4 + A2 * B7 = B1 * A0 + B4 * A1 + B7 * A2 by rw [Int.mul_comm A0 B1, Int.mul_comm A1 B4, Int.mul_comm A2 B7]), decide_eq_true (show A3 * B1 + A4 * B4 + A5 * B7 = B1 * A3 + B4 * A4 + B7 * A5 by rw [Int.mul_comm A3 B1, Int.mul_comm A4 B4, Int.mul_comm A5 B7]), decide_eq_true (show A6 * B1 + A7 * B4 + A8 * B7 = B1 * A6 + B4 * A7 + B7 * A8 by rw [Int.mul_comm A6 B1, Int.mul_comm A7 B4, Int.mul_comm A8 B7]), decide_eq_true (show A0 * B2 + A1 * B5 + A2 * B8 = B2 * A0 + B5 * A1 + B8 * A2 by rw [Int.mul_comm A0 B2, Int.mul_comm A1 B5, Int.mul_comm A2 B8]), decide_eq_true (show A3 * B2 + A4 * B5 + A5 * B8 = B2 * A3 + B5 * A4 + B8 * A5 by rw [Int.mul_comm A3 B2, Int.mul_comm A4 B5, Int.mul_comm A5 B8]), decide_eq_true (show A6 * B2 + A7 * B5 + A8 * B8 = B2 * A6 + B5 * A7 + B8 * A8 by rw [Int.mul_comm A6 B2, Int.mul_comm A7 B5, Int.mul_comm A8 B8])]
    rfl
end
theorem law_det (x y : Nat × (Nat × (Nat × (Nat × (Nat × (Nat × (Nat × (Nat × (Nat × Unit))))))))) : laws_FnMatDetMul 18446744073709551616 x y = some true := by
  obtain ⟨a0, a1, a2, a3, a4, a5, a6, a7, a8, _⟩ := x
  obtain ⟨b0, b1, b2, b3, b4, b5, b6, b7, b8, _⟩ := y
  exact law_det0 18446744073709551600 rfl a0 a1 a2 a3 a4 a5 a6 a7 a8 b0 b1 b2 b3 b4 b5 b6 b7 b8
theorem law_tr (x y : Nat × (Nat × (Nat × (Nat × (Nat × (Nat × (Nat × (Nat × (Nat × Unit))))))))) : laws_FnMatTranspose 18446744073709551616 x y = some true := by
  obtain ⟨a0, a1, a2, a3, a4, a5, a6, a7, a8, _⟩ := x
  obtain ⟨b0, b1, b2, b3, b4, b5, b6, b7, b8, _⟩ := y
  exact law_tr0 18446744073709551600 rfl a0 a1 a2 a3 a4 a5 a6 a7 a8 b0 b1 b2 b3 b4 b5 b6 b7 b8
end Go.Proofs.YtjabjnkiddldeaaDoor.PvMat
