/- Putting lists of lists of places in a row is an error just if a place has not stride numbers; else the row has their numbers in turn and an end behind each inner list; for all lists and strides of bulk at most 1048576. -/
import Derived.Test.YtgipjhgnnppjgaaRows
import Derived.Test.YtgipjhgnnppjgaaFD
import Derived.Test.YtgipjhgnnppjgaaPvDeflate3
import Derived.Test.YtgipjhgnnppjgaaAv27
import Derived.WalkKit
import Derived.ProofKit
import Derived.OpenShut
import Derived.ChangeOld
import Derived.SizedLaws
import Derived.JoinedCond
set_option linter.unusedVariables false
set_option linter.unusedSectionVars false
namespace Go.Proofs.Ytgipjhgnnppjgaa.fnDeflate3
open Go.Av Go.ChangeShapes Go.RowKit
open Go.Proofs.Ytgipjhgnnppjgaa.FD
theorem own : ownKnob Try.prog.godebug = none := by kernel_rfl
theorem one_le {H : Type} (d : DataW H) : 1 ≤ Rows.uptoBulk d := by
  cases d with
  | lit l => cases l <;> simp [Rows.uptoBulk]
  | nil => simp [Rows.uptoBulk]
  | ptr d => simp [Rows.uptoBulk]
  | slice elems spare => simp [Rows.uptoBulk]
  | agg parts => simp [Rows.uptoBulk]
  | iface t d => simp [Rows.uptoBulk]
  | map entries => simp [Rows.uptoBulk]
  | held h => simp [Rows.uptoBulk]
def bulk (H : Type) : Bulk H where
  one := Rows.uptoBulk
  all := Rows.uptoBulkAll
  nil := by simp only [Rows.uptoBulkAll]
  cons d r := by simp only [Rows.uptoBulkAll]
  pos := one_le
  slice e s := by simp only [Rows.uptoBulk]
theorem sums {α : Type} (S : α → Nat) (T : α → Nat) : ∀ (l : List α), (∀ x ∈ l, T x ≤ S x) → (l.map T).sum ≤ (l.map S).sum
  | [], _ => by simp
  | x :: r, h => by
    have h1 := h x List.mem_cons_self
    have := sums S T r (fun y hy => h y (List.mem_cons_of_mem _ hy))
    simp only [List.map_cons, List.sum_cons]
    omega
theorem small2 (l : Den (.list (.list .float))) : l.length + (l : List (List Nat)).flatten.length ≤ ksz (.list (.list .float)) l := by
  have h := sums (ksz (.list .float)) List.length (l : List (List Nat)) (fun x _ => by simp only [ksz]; exact Nat.le_add_right _ _)
  rw [List.length_flatten]
  simp only [ksz] at h ⊢
  omega
theorem small3 (a : Den (.list (.list (.list .float)))) : a.length + (a : List (List (List Nat))).flatten.length + (a : List (List (List Nat))).flatten.flatten.length ≤ ksz (.list (.list (.list .float))) a := by
  have h := sums (ksz (.list (.list .float))) (fun l : List (List Nat) => l.length + l.flatten.length) (a : List (List (List Nat))) (fun x _ => small2 x)
  have e : ∀ a : List (List (List Nat)), (a.map fun l : List (List Nat) => l.length + l.flatten.length).sum = a.flatten.length + a.flatten.flatten.length := by
    intro a
    induction a with
    | nil => rfl
    | cons x r ih => simp only [List.map_cons, List.sum_cons, ih, List.flatten_cons, List.flatten_append, List.length_append]; omega
  rw [e] at h
  show _ ≤ a.length + ((a : List (List (List Nat))).map (ksz (.list (.list .float)))).sum
  omega
theorem small4 (c : Den (.list (.list (.list (.list .float))))) : c.length + (c : List (List (List (List Nat)))).flatten.length + (c : List (List (List (List Nat)))).flatten.flatten.length + (c : List (List (List (List Nat)))).flatten.flatten.flatten.length ≤ ksz (.list (.list (.list (.list .float)))) c := by
  have h := sums (ksz (.list (.list (.list .float)))) (fun l : List (List (List Nat)) => l.length + l.flatten.length + l.flatten.flatten.length) (c : List (List (List (List Nat)))) (fun x _ => small3 x)
  have e : ∀ a : List (List (List (List Nat))), (a.map fun l : List (List (List Nat)) => l.length + l.flatten.length + l.flatten.flatten.length).sum = a.flatten.length + a.flatten.flatten.length + a.flatten.flatten.flatten.length := by
    intro a
    induction a with
    | nil => rfl
    | cons x r ih => simp only [List.map_cons, List.sum_cons, ih, List.flatten_cons, List.flatten_append, List.length_append]; omega
  rw [e] at h
  show _ ≤ c.length + ((c : List (List (List (List Nat)))).map (ksz (.list (.list (.list .float))))).sum
  omega
set_option maxRecDepth 100000 in
theorem lifted (os : Os) (started : os.Started) (H : Type) (enc : TypeId × Value → H) (F : Stop.Interp) :
    ReturnsInHanded {} Try.checked os 6 .any ((Rows.OpenSpec.upto Rows.fnDeflate3Spec).pre6 enc Try.prog Try.f6 Rows.fnDeflate3UptoRow.domain false) (((Rows.OpenSpec.upto Rows.fnDeflate3Spec).at F).post enc Try.prog Try.f6 false true false false) :=
  rowb_of (C := Try.checked) (s := Rows.fnDeflate3Spec) (c := laws_FnDeflate3_con 18446744073709551616) (bound := 1048576) (bulk H) 12 (k := Rows.uptoSmall) (S := Rows.OpenSpec.upto Rows.fnDeflate3Spec) rfl (fun ds h => of_decide_eq_true h) own started (by kernel_rfl) Try.func6
    (OpenSpec.witness (enc := enc) (C := Try.checked) (s := Rows.OpenSpec.upto Rows.fnDeflate3Spec) (k := Rows.uptoSmall) rfl false ⟨#[], #[.slice none 0 0, .int .i64 0], []⟩ 12 (by kernel_rfl) (by kernel_rfl) (by kernel_rfl)
      (x := ([.nil, .lit (.int .i64 0)], [], [])) (by kernel_rfl) rfl (by kernel_rfl))
    rfl (fun ds h => match ds, h with | [_, _], _ => rfl) (by kernel_rfl) (by kernel_rfl) (by kernel_rfl) rfl (by kernel_rfl) (by kernel_rfl) rfl (laws_FnDeflate3_s _) (bt := 4) (by kernel_rfl) (by kernel_rfl) (by kernel_rfl)
    (fun x hx hk => ⟨true, PvDeflate3.law (by decide) (by decide) x.1 x.2.1 (by
      have h := small4 x.1
      have h2 : ksz (.list (.list (.list (.list .float)))) x.1 ≤ 1048576 := Nat.le_trans (Nat.le_add_right _ _) hk
      exact ⟨by omega, by omega, by omega, by omega⟩), fun w Fz v h => by simpa [resV, resL, RV, Kd.isAgg, RP, laws_FnDeflate3_con] using h⟩)
theorem over : Rows.fnDeflate3UptoRow.holds Try.pinned (Rows.OpenSpec.upto Rows.fnDeflate3Spec) :=
  OpenClaim.holds_of_cond 6 Try.f6 rfl rfl rfl rfl rfl rfl rfl ⟨rfl, rfl, rfl, rfl, rfl⟩ rfl rfl rfl rfl rfl (by kernel_rfl) Try.func6 (by kernel_rfl)
    (of_decide_eq_true (by kernel_rfl)) (by unfold Func.isWrapper; first | (rw [if_pos (by decide +kernel)]; kernel_rfl) | (rw [if_neg (by decide +kernel)]; exact ⟨rfl, rfl⟩))
    (fun os started H enc _ F => lifted os started H enc F)
theorem proved : Rows.FnDeflate3UptoSaid := over
#print axioms proved
end Go.Proofs.Ytgipjhgnnppjgaa.fnDeflate3
namespace Go.Proofs.Ytgipjhgnnppjgaa
/-- The row, under a short name, for the claim. -/
theorem fnDeflate3_holds : Rows.FnDeflate3UptoSaid := fnDeflate3.proved
end Go.Proofs.Ytgipjhgnnppjgaa
