/- Package variables that hold errors, as a card's row lays them. -/
import Derived.Test.YtjabjnkiddldeaaDoorAv34
import Derived.Stop.LaidErr
set_option linter.unusedVariables false
set_option linter.unusedSimpArgs false
namespace Go.Av
open Go Go.RowKit Go.ChangeShapes
/-- What a package variable must hold. -/
def GE (W : World) (a : Gl) : Prop := a.κ.plain = true ∧ Old W a.g ∧ (∃ es, RP (fun _ => False) W a.κ a.x es ∧ Lie W es a.g 0) ∧ ∀ t, a.ti = some t → ∃ p, Lie W [.iface t (.pointer (some p))] a.g 0
theorem gok_all {gl : List Gl} {W : World} (h : ∀ a ∈ gl, GE W a) : GOK gl (Old W) W := h
theorem ge_unit {W : World} {g : Nat} (h : g < W.heap.size) : GE W ⟨g, .unit, (), none⟩ := ⟨rfl, h, ⟨[], by simp [RP], fun j u hj => by simp at hj⟩, fun t ht => by cases ht⟩
def sentB (P : Program) (ti tp : TypeId) : Bool :=
  (match P.underlying ti with | some (.interface _) => true | _ => false) &&
  (match P.underlying tp with
    | some (.pointer te) => (match P.underlying te with
      | some (.struct fs) => (match fs.toList with
        | [f] => Nat.beq f.offset 0 && (match P.underlying f.type with | some .string => true | _ => false) && Nat.beq (P.cellsOf te) 1 && Nat.beq (P.cellsOf f.type) 1
        | _ => false)
      | _ => false)
    | _ => false)
theorem ge_sent {P : Program} {W : World} {name nm : String} {text : List UInt8} {g : Nat} {ti tp : TypeId} {rest : List (String × DataW Unit)} (h : laidMet P ((name, .iface nm (.ptr (.agg [.lit (.string text)]))) :: rest) W)
    (hg : P.globalNamed name = some g) (ht : (P.globals[g]?).map (·.type) = some ti) (hrow : ∀ u, P.typeName? 3 u = some nm → u = tp) (hb : sentB P ti tp = true) : GE W ⟨g, .unit, (), some tp⟩ := by
  unfold sentB at hb
  simp only [Bool.and_eq_true] at hb
  obtain ⟨h1, h2⟩ := hb
  split at h1 <;> try (cases h1; done)
  rename_i ms hms
  split at h2 <;> try (cases h2; done)
  rename_i te hte
  split at h2 <;> try (cases h2; done)
  rename_i fs hfs
  split at h2 <;> try (cases h2; done)
  rename_i f hf
  simp only [Bool.and_eq_true] at h2
  obtain ⟨⟨⟨e1, e2⟩, e3⟩, e4⟩ := h2
  split at e2 <;> try (cases e2; done)
  rename_i hs
  have hfe : fs = #[f] := by apply Array.ext'; exact hf
  subst hfe
  obtain ⟨a, s, hv, _⟩ := laid_sentinel h hg ht hms hrow hte hfs rfl (Nat.eq_of_beq_eq_true e1) hs (Nat.eq_of_beq_eq_true e3) (Nat.eq_of_beq_eq_true e4)
  have hc : W.cell? ⟨g, 0, none⟩ = some (.iface tp (.pointer (some a))) := by
    have h0 := World.var?_cell hg hv 0
    simpa using h0
  have hlt : g < W.heap.size := by
    rcases Nat.lt_or_ge g W.heap.size with h' | h'
    · exact h'
    · simp [World.cell?, Array.getElem?_eq_none h'] at hc
  refine ⟨rfl, hlt, ⟨[], by simp [RP], fun j u hj => by simp at hj⟩, fun t ht => ?_⟩
  simp only [Option.some.injEq] at ht
  subst ht
  refine ⟨a, fun j u hj => ?_⟩
  cases j with
  | zero =>
    simp only [List.getElem?_cons_zero, Option.some.injEq] at hj
    subst hj
    exact hc
  | succ j => simp at hj
/-- The one type of that name. -/
theorem row_err {P : Program} {tp te : TypeId} (h : P.typeName? 3 tp = some "*errors.errorString") (hu : P.underlying tp = some (.pointer te)) : True := trivial
end Go.Av
