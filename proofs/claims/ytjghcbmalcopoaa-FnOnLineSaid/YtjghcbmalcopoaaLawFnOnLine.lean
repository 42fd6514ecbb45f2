/- A place is told to be on a line just if it is on one of its segments (whole numbers within bounds). -/
import Derived.Test.YtjghcbmalcopoaaRows
import Derived.Test.YtjghcbmalcopoaaPO
import Derived.Test.YtjghcbmalcopoaaPvOnL
import Derived.Test.YtjghcbmalcopoaaAv35
import Derived.WalkKit
import Derived.ProofKit
import Derived.OpenShut
import Derived.ChangeOld
import Derived.SizedLaws
set_option linter.unusedVariables false
namespace Go.Proofs.Ytjghcbmalcopoaa.fnOnLine
open Go.Av Go.ChangeShapes Go.RowKit
open Go.Proofs.Ytjghcbmalcopoaa.PO
theorem own : ownKnob Try.prog.godebug = none := by kernel_rfl
theorem gv_eq (N G : Nat) (h : N = 18446744073709551616 + G) : gv N = G := by
  cases N with
  | zero => omega
  | succ n => show n - 18446744073709551615 = G; omega
set_option maxRecDepth 100000 in
theorem held (W : World) (h : W.ShapedOpen Try.prog) : ∃ b : Nat, GOK [⟨1, .float, b⟩] (Old W) W :=
  gok_shape (P := Try.prog) (t := 22) (zero := #[.float .f64 0]) h (of_decide_eq_true (by kernel_rfl)) (by kernel_rfl) rfl (by kernel_rfl) (by kernel_rfl) (by kernel_rfl)
theorem all (W : World) (h : W.ShapedOpen Try.prog) : ∃ (c : Con) (gl : List Gl), GOK gl (Old W) W ∧ kindsB Try.prog 12 Try.f4.params.toList c.ps = true ∧ c.fid = 4 ∧ c.rs = [.bool] ∧ c.Sound Try.prog gl ∧
    ∀ x : HL c.ps, wfL c.ps x → ∃ y : HR c.rs, c.fn x = some y ∧ ∀ w Fz v, RV ι0 Fz w (resV c.rs y) v → v = .bool true := by
  obtain ⟨b, hb⟩ := held W h
  obtain ⟨N, hN⟩ : ∃ N : Nat, N = 18446744073709551616 + b := ⟨_, rfl⟩
  have hg := gv_eq N b hN
  have hNl : 18446744073709551616 ≤ N := by omega
  refine ⟨laws_FnOnLine_con N, GL N, ?_, by kernel_rfl, rfl, rfl, laws_FnOnLine_s N, fun x hx => ⟨true, PvOnL.law hNl x.1 x.2.1 x.2.2.1 ⟨hx.2.1.1, hx.2.1.2.1⟩ hx.2.2.1.2, fun w Fz v h => by simpa [resV, resL, RV, Kd.isAgg, RP, laws_FnOnLine_con] using h⟩⟩
  unfold GL
  rw [hg]; exact hb
set_option maxRecDepth 100000 in
theorem lifted (os : Os) (started : os.Started) (H : Type) (enc : TypeId × Value → H) :
    ReturnsInHanded {} Try.checked os 4 .any (Rows.fnOnLineSpec.pre6 enc Try.prog Try.f4 Rows.fnOnLineRow.domain false) (Rows.fnOnLineSpec.post enc Try.prog Try.f4 false true false false) :=
  rowo_of (C := Try.checked) 12 own started (by kernel_rfl) Try.func4
    (ChangeSpec.witness6 (enc := enc) (C := Try.checked) false ⟨#[], #[.int .i64 0, .agg #[.float .f64 0, .float .f64 0], .slice none 0 0], []⟩ 12 (by kernel_rfl) (by kernel_rfl) (by kernel_rfl) (by kernel_rfl))
    rfl (fun ds h => match ds, h with | [_, _, _], _ => rfl) (by kernel_rfl) (by kernel_rfl) (by kernel_rfl) (bt := 4) (by kernel_rfl) (by kernel_rfl) (by kernel_rfl) all
theorem over : Rows.fnOnLineRow.holds Try.pinned (OpenSpec.ofChange Rows.fnOnLineSpec) :=
  OpenClaim.holds_of_wide 4 Try.f4 rfl rfl rfl rfl rfl rfl rfl ⟨rfl, rfl, rfl, rfl, rfl⟩ rfl rfl rfl rfl rfl (by kernel_rfl) Try.func4 (by kernel_rfl)
    (of_decide_eq_true (by kernel_rfl)) (by unfold Func.isWrapper; first | (rw [if_pos (by decide +kernel)]; kernel_rfl) | (rw [if_neg (by decide +kernel)]; exact ⟨rfl, rfl⟩))
    (fun os started H enc _ => lifted os started H enc)
theorem proved : Rows.FnOnLineSaid := over
#print axioms proved
end Go.Proofs.Ytjghcbmalcopoaa.fnOnLine
namespace Go.Proofs.Ytjghcbmalcopoaa
/-- The row, under a short name, for the claim. -/
theorem fnOnLine_holds : Rows.FnOnLineSaid := fnOnLine.proved
end Go.Proofs.Ytjghcbmalcopoaa
