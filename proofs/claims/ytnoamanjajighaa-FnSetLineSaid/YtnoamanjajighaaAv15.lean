/- What a row's argument reads as is plain data that lies in memory. -/
import Derived.OpenShut
import Derived.Test.YtnoamanjajighaaAv14
import Derived.ProofKit
import Derived.SizedLaws
import Derived.Carry
set_option linter.unusedVariables false
set_option linter.unusedSimpArgs false
namespace Go.Av
open Go Go.RowKit

/-- Bytes of a value (not more than the front end's own figure). -/
def Kd.bytes : Kd → Nat
  | .int .i64 => 8
  | .int _ => 1
  | .float => 8
  | .bool => 1
  | .str => 16
  | .list _ => 24
  | .unit => 0
  | .pair a b => a.bytes + b.bytes
  | .geo => 120
  | .any => 8
  | .nl _ => 24
/-- As much as an address space holds. -/
def fits (n b : Nat) : Prop := n ≤ maxLen ∧ n * b ≤ 140737488351232
mutual
/-- In range, and no longer than memory bears. -/
def wfG : Geo → Prop
  | .mk kd ly sr flat ends endss kids => (IntKind.i64.min ≤ kd ∧ kd ≤ IntKind.i64.max) ∧ (IntKind.i64.min ≤ ly ∧ ly ≤ IntKind.i64.max) ∧ (IntKind.i64.min ≤ sr ∧ sr ≤ IntKind.i64.max) ∧
      (fits flat.length 8 ∧ ∀ x ∈ flat, x < 2 ^ 64) ∧ (fits ends.length 8 ∧ ∀ x ∈ ends, IntKind.i64.min ≤ x ∧ x ≤ IntKind.i64.max) ∧
      (fits endss.length 24 ∧ ∀ l ∈ endss, fits l.length 8 ∧ ∀ x ∈ l, IntKind.i64.min ≤ x ∧ x ≤ IntKind.i64.max) ∧ fits kids.length 120 ∧ wfGs kids
def wfGs : List Geo → Prop
  | [] => True
  | g :: r => wfG g ∧ wfGs r
end
def wf : (κ : Kd) → Den κ → Prop
  | .int k, n => k.min ≤ n ∧ n ≤ k.max
  | .float, b => b < 2 ^ 64
  | .bool, _ => True
  | .str, s => s.size ≤ maxLen ∧ s.size ≤ 140737488351232
  | .list e, xs => fits xs.length e.bytes ∧ ∀ x ∈ xs, wf e x
  | .unit, _ => True
  | .pair a b, x => wf a x.1 ∧ wf b x.2
  | .geo, g => wfG g
  | .any, _ => True
  | .nl e, o => match o with | none => True | some xs => fits xs.length e.bytes ∧ ∀ x ∈ xs, wf e x
theorem wfGs_mem : ∀ {l : List Geo}, (∀ g ∈ l, wfG g) → wfGs l
  | [], _ => by simp only [wfGs]
  | g :: r, h => by simp only [wfGs]; exact ⟨h g (by simp), wfGs_mem fun x hx => h x (by simp [hx])⟩
theorem wfGs_of : ∀ {l : List Geo}, wfGs l → ∀ g ∈ l, wfG g
  | [], _, g, hg => by simp at hg
  | x :: r, h, g, hg => by
    simp only [wfGs] at h
    rcases List.mem_cons.1 hg with rfl | hg
    · exact h.1
    · exact wfGs_of h.2 g hg

/-! ### which kind a type is of -/
def ktF (P : Program) (kt : TypeId → Kd → Bool) : List Field → Kd → Nat → Bool
  | [], .unit, _ => true
  | f :: fs, .pair a b, off => Nat.beq f.offset off && Nat.beq (P.cellsOf f.type) a.size && kt f.type a && ktF P kt fs b (off + a.size)
  | _, _, _ => false
def isI64 (P : Program) (t : TypeId) : Bool := match P.underlying t with | some (.int .i64) => true | _ => false
def sliceOf (P : Program) (t : TypeId) (p : TypeId → Bool) : Bool := match P.underlying t with | some (.slice e) => p e | _ => false
def isF64 (P : Program) (t : TypeId) : Bool := match P.underlying t with | some (.float .f64) => true | _ => false
def fld (fs : List Field) (i : Nat) (p : TypeId → Bool) (P : Program) : Bool := match fs[i]? with | some f => Nat.beq f.offset i && Nat.beq (P.cellsOf f.type) 1 && p f.type | none => false
def geoB (P : Program) (t : TypeId) (fs : List Field) : Bool :=
  Nat.beq fs.length 7 && Nat.beq (P.cellsOf t) 7 && fld fs 0 (isI64 P) P && fld fs 1 (isI64 P) P && fld fs 2 (isI64 P) P &&
  fld fs 3 (fun u => sliceOf P u fun e => isF64 P e && Nat.beq (P.cellsOf e) 1 && Nat.ble 8 (P.bytesOf e)) P && fld fs 4 (fun u => sliceOf P u fun e => isI64 P e && Nat.beq (P.cellsOf e) 1 && Nat.ble 8 (P.bytesOf e)) P &&
  fld fs 5 (fun u => sliceOf P u fun e => (Nat.beq (P.cellsOf e) 1 && Nat.ble 24 (P.bytesOf e)) && sliceOf P e fun e' => isI64 P e' && Nat.beq (P.cellsOf e') 1 && Nat.ble 8 (P.bytesOf e')) P &&
  fld fs 6 (fun u => sliceOf P u fun e => Nat.beq e t && Nat.ble 120 (P.bytesOf e)) P
/-- The elements of an array, one after another. -/
def ktA (P : Program) (rec : TypeId → Kd → Bool) (e : TypeId) : Nat → Kd → Bool
  | 0, .unit => true
  | m + 1, .pair a b => rec e a && Nat.beq (P.cellsOf e) a.size && ktA P rec e m b
  | _, _ => false
def ktB (P : Program) : Nat → TypeId → Kd → Bool
  | 0, _, _ => false
  | n + 1, t, κ =>
    match P.underlying t, κ with
    | some .bool, .bool => true
    | some (.int k), .int k' => decide (k = k')
    | some (.float .f64), .float => true
    | some .string, .str => true
    | some (.slice e), .list κ => ktB P n e κ && Nat.beq (P.cellsOf e) κ.size && Nat.ble 1 κ.size && Nat.ble κ.bytes (P.bytesOf e)
    | some (.slice e), .nl κ => ktB P n e κ && Nat.beq (P.cellsOf e) κ.size && Nat.ble 1 κ.size && Nat.ble κ.bytes (P.bytesOf e)
    | some (.struct fs), .geo => geoB P t fs.toList
    | some (.struct fs), .pair a b => Nat.beq (P.cellsOf t) (Kd.pair a b).size && ktF P (ktB P n) fs.toList (.pair a b) 0
    | some (.struct fs), .unit => Nat.beq (P.cellsOf t) 0 && ktF P (ktB P n) fs.toList .unit 0
    | some (.array m e), .pair a b => Nat.beq (P.cellsOf t) (Kd.pair a b).size && ktA P (ktB P n) e m (.pair a b)
    | _, _ => false

theorem mapM_at {α β : Type} {f : α → Option β} : ∀ {l : List α} {ys : List β}, l.mapM f = some ys → ys.length = l.length ∧ ∀ (i : Nat) (x : α), l[i]? = some x → ∃ y, ys[i]? = some y ∧ f x = some y
  | [], ys, h => by simp at h; subst h; exact ⟨rfl, fun i x h => by simp at h⟩
  | a :: l, ys, h => by
    rw [List.mapM_cons] at h
    simp only [Option.bind_eq_bind, Option.bind_eq_some_iff, Option.pure_def, Option.some.injEq] at h
    obtain ⟨y, hy, zs, hz, rfl⟩ := h
    obtain ⟨h1, h2⟩ := mapM_at hz
    refine ⟨by simp [h1], fun i x hx => ?_⟩
    cases i with
    | zero => simp only [List.getElem?_cons_zero, Option.some.injEq] at hx; subst hx; exact ⟨y, rfl, hy⟩
    | succ i => exact h2 i x (by simpa using hx)

section
variable {H : Type} {enc : TypeId × Value → H} {P : Program} {w : World} {spare : Nat → Bool} {held : Bool}
/-- All that lies in memory. -/
def Old (w : World) : Nat → Prop := fun b => b < w.heap.size
theorem cells_lie {a : Addr} {n : Nat} {es : List Value} (h : w.cells? 0 a n = some es) : es.length = n ∧ (1 ≤ n → a.spot = none ∧ a.block < w.heap.size ∧ Lie w es a.block a.off) := by
  unfold World.cells? at h
  rw [if_pos (Nat.zero_le _)] at h
  obtain ⟨h1, h2⟩ := mapM_at h
  rw [List.length_range] at h1
  refine ⟨h1, fun hn => ?_⟩
  obtain ⟨y, hy, hc⟩ := h2 0 0 (List.getElem?_range (by omega))
  rw [Addr.add_zero'] at hc
  have hs : a.spot = none := by
    unfold World.cell? at hc
    split at hc
    · cases hsp : a.spot with
      | none => rfl
      | some x => simp [hsp] at hc
    · cases hc
  refine ⟨hs, World.block_lt_of_cell? w a hc, fun j u hj => ?_⟩
  have hlt := (List.getElem?_eq_some_iff.1 hj).1
  obtain ⟨y, hy, hc⟩ := h2 j j (List.getElem?_range (by omega))
  rw [hj] at hy
  simp only [Option.some.injEq] at hy
  subst hy
  have : a.add j = ⟨a.block, a.off + j, none⟩ := by
    obtain ⟨b, o, s⟩ := a
    simp only at hs
    subst hs
    exact Addr.add_lit b o j
  rw [← this]; exact hc
theorem weightsAll_mem {e : TypeId} : ∀ {l : List (DataW H)} {d : DataW H} {n : Nat}, d ∈ l → n ∈ d.weights P e → n ∈ DataW.weightsAll P e l
  | x :: l, d, n, hd, hn => by
    simp only [DataW.weightsAll, List.mem_append]
    rcases List.mem_cons.1 hd with rfl | hd
    · exact .inl hn
    · exact .inr (weightsAll_mem hd hn)
  | [], _, _, hd, _ => by simp at hd
theorem trod_slice {fuel : Nat} {t e : TypeId} {v : Value} {d : DataW H} {ps : List MemPlace} (hu : P.underlying t = some (.slice e)) (h : DataW.trod enc P w 0 spare held (fuel + 1) t [v] = some (d, ps))
    (hz : ∀ n ∈ d.weights P t, n ≤ reachBytes) :
    v = .slice none 0 0 ∨ ∃ a len cap, v = .slice (some a) len cap ∧ len ≤ cap ∧ cap ≤ maxLen ∧ len * P.bytesOf e ≤ reachBytes ∧
      ∀ i < len, ∃ cs d' p', w.cells? 0 (a.add (i * P.cellsOf e)) (P.cellsOf e) = some cs ∧ DataW.trod enc P w 0 spare held fuel e cs = some (d', p') ∧ ∀ n ∈ d'.weights P e, n ≤ reachBytes := by
  cases v with
  | slice a len cap =>
    cases a with
    | none =>
      left
      cases len <;> cases cap <;> simp [DataW.trod, hu] at h
      rfl
    | some a =>
      right
      simp only [DataW.trod, hu] at h
      split at h
      · rename_i hc
        obtain ⟨elems, he, h⟩ := Option.bind_eq_some_iff.1 h
        obtain ⟨rest, hr, h⟩ := Option.map_eq_some_iff.1 h
        simp only [Prod.mk.injEq] at h
        obtain ⟨rfl, _⟩ := h
        obtain ⟨h1, h2⟩ := mapM_at he
        rw [List.length_range] at h1
        simp only [DataW.weights, hu, List.length_map, h1] at hz
        have hz0 := hz _ (List.mem_cons_self)
        refine ⟨a, len, cap, rfl, hc.2.1, hc.2.2, Nat.le_trans (Nat.mul_le_mul_right _ (Nat.le_add_right _ _)) hz0, fun i hi => ?_⟩
        obtain ⟨y, hy1, hy⟩ := h2 i i (List.getElem?_range (by omega))
        obtain ⟨cs, h3, h4⟩ := Option.bind_eq_some_iff.1 hy
        exact ⟨cs, y.1, y.2, h3, h4, fun n hn => hz n (List.mem_cons_of_mem _ (List.mem_append_left _ (weightsAll_mem (List.mem_map.2 ⟨y, List.mem_of_getElem? hy1, rfl⟩) hn)))⟩
      · cases h
  | _ => simp [DataW.trod, hu] at h
/-- What is so at each place is so of a list. -/
theorem choose_list {α : Type} {p : Nat → α → Prop} : ∀ (n : Nat), (∀ i < n, ∃ x, p i x) → ∃ xs : List α, xs.length = n ∧ ∀ i x, xs[i]? = some x → p i x
  | 0, _ => ⟨[], rfl, fun i x h => by simp at h⟩
  | n + 1, h => by
    obtain ⟨xs, hl, hx⟩ := choose_list n (fun i hi => h i (by omega))
    obtain ⟨y, hy⟩ := h n (by omega)
    refine ⟨xs ++ [y], by simp [hl], fun i x hi => ?_⟩
    rcases Nat.lt_or_ge i n with hlt | hge
    · rw [List.getElem?_append_left (by omega)] at hi; exact hx i x hi
    · rw [List.getElem?_append_right (by omega)] at hi
      have : i - xs.length = 0 := by
        rcases Nat.eq_zero_or_pos (i - xs.length) with h | h
        · exact h
        · rw [List.getElem?_eq_none (by simp; omega)] at hi; cases hi
      rw [this] at hi
      simp only [List.getElem?_cons_zero, Option.some.injEq] at hi
      subst hi
      have : i = n := by omega
      rw [this]; exact hy
/-- A slice whose elements are of a kind. -/
theorem slice_RLf {α : Type} {E : α → List Value → Prop} {W : α → Prop} {sz bs fuel : Nat} {e : TypeId} (hs : P.cellsOf e = sz) (h1 : 1 ≤ sz) (hb : bs ≤ P.bytesOf e)
    (ih : ∀ cs d ps, DataW.trod enc P w 0 spare held fuel e cs = some (d, ps) → (∀ n ∈ d.weights P e, n ≤ reachBytes) → ∃ x : α, E x cs ∧ W x) {t : TypeId} {v : Value} {d : DataW H} {ps : List MemPlace} (hu : P.underlying t = some (.slice e))
    (h : DataW.trod enc P w 0 spare held (fuel + 1) t [v] = some (d, ps)) (hz : ∀ n ∈ d.weights P t, n ≤ reachBytes) : ∃ xs : List α, RLf (Old w) w E sz xs v ∧ fits xs.length bs ∧ ∀ x ∈ xs, W x := by
  rcases trod_slice hu h hz with rfl | ⟨a, len, cap, rfl, hlc, hcm, hbl, hel⟩
  · exact ⟨[], ⟨none, 0, rfl, by simp, .inl rfl⟩, ⟨by simp, by simp⟩, by simp⟩
  · obtain ⟨xs, hl, hx⟩ := choose_list (p := fun i (x : α) => ∃ cs, w.cells? 0 (a.add (i * sz)) sz = some cs ∧ E x cs ∧ W x) len (fun i hi => by
      obtain ⟨cs, d', p', h3, h4, hz'⟩ := hel i hi
      rw [hs] at h3
      obtain ⟨x, h5, h6⟩ := ih cs d' p' h4 hz'
      exact ⟨x, cs, h3, h5, h6⟩)
    have hr : reachBytes = 140737488351232 := by decide
    refine ⟨xs, ⟨some a, cap, by rw [hl], by omega, ?_⟩, ⟨by omega, by rw [hl, ← hr]; exact Nat.le_trans (Nat.mul_le_mul_left _ hb) hbl⟩, fun x hxm => ?_⟩
    · rcases Nat.eq_zero_or_pos len with h0 | h0
      · left; exact List.eq_nil_of_length_eq_zero (by omega)
      · right
        obtain ⟨x0, hx0⟩ : ∃ x, xs[0]? = some x := ⟨xs[0], List.getElem?_eq_getElem (by omega)⟩
        obtain ⟨cs, hc, _⟩ := hx 0 x0 hx0
        rw [Nat.zero_mul, Addr.add_zero'] at hc
        obtain ⟨hsp, hbl, _⟩ := (cells_lie hc).2 h1
        obtain ⟨b, off, s⟩ := a
        simp only at hsp hbl
        subst hsp
        refine ⟨b, off, rfl, hbl, fun i x hix => ?_⟩
        obtain ⟨cs, hc, hE, _⟩ := hx i x hix
        rw [Addr.add_lit] at hc
        obtain ⟨h2, h3⟩ := cells_lie hc
        exact ⟨cs, hE, h2, (h3 h1).2.2⟩
    · obtain ⟨i, hi⟩ := List.mem_iff_getElem?.1 hxm
      obtain ⟨_, _, _, h⟩ := hx i x hi
      exact h
theorem lit_wf {k : IntKind} {n : Int} (h : (Lit.int k n).wf = true) : k.min ≤ n ∧ n ≤ k.max := by
  simpa [Lit.wf] using h
theorem trod_int {fuel : Nat} {t : TypeId} {k : IntKind} {cs : List Value} {d : DataW H} {ps : List MemPlace} (hu : P.underlying t = some (.int k)) (h : DataW.trod enc P w 0 spare held (fuel + 1) t cs = some (d, ps)) :
    ∃ n : Int, cs = [.int k n] ∧ k.min ≤ n ∧ n ≤ k.max := by
  match cs, h with
  | [.int k' n], h =>
    simp only [DataW.trod, hu] at h
    split at h
    · rename_i hc
      rw [hc.1]
      exact ⟨n, rfl, lit_wf hc.2⟩
    · cases h
  | [], h => simp [DataW.trod, hu] at h
  | [.bool _], h => simp [DataW.trod, hu] at h
  | [.float _ _], h => simp [DataW.trod, hu] at h
  | [.complex _ _ _], h => simp [DataW.trod, hu] at h
  | [.string _], h => simp [DataW.trod, hu] at h
  | [.pointer _], h => simp [DataW.trod, hu] at h
  | [.slice _ _ _], h => simp [DataW.trod, hu] at h
  | [.map _], h => simp [DataW.trod, hu] at h
  | [.chan _], h => simp [DataW.trod, hu] at h
  | [.func _ _ _], h => simp [DataW.trod, hu] at h
  | [.nilFunc], h => simp [DataW.trod, hu] at h
  | [.iface _ _], h => simp [DataW.trod, hu] at h
  | [.nilIface], h => simp [DataW.trod, hu] at h
  | [.agg _], h => simp [DataW.trod, hu] at h
  | [.tuple _], h => simp [DataW.trod, hu] at h
  | _ :: _ :: _, h => simp [DataW.trod, hu] at h
theorem trod_float {fuel : Nat} {t : TypeId} {cs : List Value} {d : DataW H} {ps : List MemPlace} (hu : P.underlying t = some (.float .f64)) (h : DataW.trod enc P w 0 spare held (fuel + 1) t cs = some (d, ps)) :
    ∃ n : Nat, cs = [.float .f64 n] ∧ n < 2 ^ 64 := by
  match cs, h with
  | [.float k' n], h =>
    simp only [DataW.trod, hu] at h
    split at h
    · rename_i hc
      rw [hc.1]
      exact ⟨n, rfl, by have := hc.2; simpa [Lit.wf] using this⟩
    · cases h
  | [], h => simp [DataW.trod, hu] at h
  | [.bool _], h => simp [DataW.trod, hu] at h
  | [.int _ _], h => simp [DataW.trod, hu] at h
  | [.complex _ _ _], h => simp [DataW.trod, hu] at h
  | [.string _], h => simp [DataW.trod, hu] at h
  | [.pointer _], h => simp [DataW.trod, hu] at h
  | [.slice _ _ _], h => simp [DataW.trod, hu] at h
  | [.map _], h => simp [DataW.trod, hu] at h
  | [.chan _], h => simp [DataW.trod, hu] at h
  | [.func _ _ _], h => simp [DataW.trod, hu] at h
  | [.nilFunc], h => simp [DataW.trod, hu] at h
  | [.iface _ _], h => simp [DataW.trod, hu] at h
  | [.nilIface], h => simp [DataW.trod, hu] at h
  | [.agg _], h => simp [DataW.trod, hu] at h
  | [.tuple _], h => simp [DataW.trod, hu] at h
  | _ :: _ :: _, h => simp [DataW.trod, hu] at h
theorem trod_one {fuel : Nat} {t e : TypeId} {cs : List Value} {d : DataW H} {ps : List MemPlace} (hu : P.underlying t = some (.slice e)) (h : DataW.trod enc P w 0 spare held (fuel + 1) t cs = some (d, ps)) : ∃ v, cs = [v] := by
  match cs, h with
  | [v], _ => exact ⟨v, rfl⟩
  | [], h => simp [DataW.trod, hu] at h
  | _ :: _ :: _, h => simp [DataW.trod, hu] at h
theorem trod_structF {fuel : Nat} {t : TypeId} {fs : Array Field} {cs : List Value} {d : DataW H} {ps : List MemPlace} (hu : P.underlying t = some (.struct fs)) (h : DataW.trod enc P w 0 spare held (fuel + 1) t cs = some (d, ps))
    (hz : ∀ n ∈ d.weights P t, n ≤ reachBytes) :
    cs.length = P.cellsOf t ∧ ∀ (i : Nat) (f : Field), fs.toList[i]? = some f → ∃ d' p', DataW.trod enc P w 0 spare held fuel f.type ((cs.drop f.offset).take (P.cellsOf f.type)) = some (d', p') ∧ ∀ n ∈ d'.weights P f.type, n ≤ reachBytes := by
  obtain ⟨xs, n, hn, hd, h1, h2, h3⟩ := DataW.trod_struct hu h
  have e : n = fuel := by omega
  subst e
  refine ⟨h1, fun i f hf => ?_⟩
  have hf' : fs[i]? = some f := by simpa using hf
  have hlt : i < fs.size := (Array.getElem?_eq_some_iff.1 hf').1
  have h4 := h3 i f hf'
  rw [List.getElem?_eq_getElem (by omega)] at h4
  simp only [Prod.mk.injEq] at hd
  rw [hd.1] at hz
  simp only [DataW.weights, hu] at hz
  refine ⟨_, _, h4, fun m hm => hz m (DataW.weights_mem_each (j := i) (t := f.type) (d := (xs[i]'(by omega)).1) ?_ ?_ m hm)⟩
  · simp only [List.getElem?_map, hf, Option.map_some]
  · rw [List.getElem?_map, List.getElem?_eq_getElem (by omega)]; rfl
theorem trod_bool {fuel : Nat} {t : TypeId} {cs : List Value} {d : DataW H} {ps : List MemPlace} (hu : P.underlying t = some .bool) (h : DataW.trod enc P w 0 spare held (fuel + 1) t cs = some (d, ps)) : ∃ b : Bool, cs = [.bool b] := by
  match cs, h with
  | [.bool b], _ => exact ⟨b, rfl⟩
  | [], h => simp [DataW.trod, hu] at h
  | [.int _ _], h => simp [DataW.trod, hu] at h
  | [.float _ _], h => simp [DataW.trod, hu] at h
  | [.complex _ _ _], h => simp [DataW.trod, hu] at h
  | [.string _], h => simp [DataW.trod, hu] at h
  | [.pointer _], h => simp [DataW.trod, hu] at h
  | [.slice _ _ _], h => simp [DataW.trod, hu] at h
  | [.map _], h => simp [DataW.trod, hu] at h
  | [.chan _], h => simp [DataW.trod, hu] at h
  | [.func _ _ _], h => simp [DataW.trod, hu] at h
  | [.nilFunc], h => simp [DataW.trod, hu] at h
  | [.iface _ _], h => simp [DataW.trod, hu] at h
  | [.nilIface], h => simp [DataW.trod, hu] at h
  | [.agg _], h => simp [DataW.trod, hu] at h
  | [.tuple _], h => simp [DataW.trod, hu] at h
  | _ :: _ :: _, h => simp [DataW.trod, hu] at h
theorem trod_str {fuel : Nat} {t : TypeId} {cs : List Value} {d : DataW H} {ps : List MemPlace} (hu : P.underlying t = some .string) (h : DataW.trod enc P w 0 spare held (fuel + 1) t cs = some (d, ps)) (hz : ∀ n ∈ d.weights P t, n ≤ reachBytes) : ∃ s : ByteArray, cs = [.string s] ∧ s.size ≤ maxLen ∧ s.size ≤ 140737488351232 := by
  match cs, h with
  | [.string s], h =>
    simp only [DataW.trod, hu] at h
    split at h
    · rename_i hc
      simp only [Option.some.injEq, Prod.mk.injEq] at h
      rw [← h.1] at hz
      simp only [DataW.weights, List.mem_singleton, forall_eq] at hz
      have hr : reachBytes = 140737488351232 := by decide
      exact ⟨s, rfl, hc, by rw [← hr]; simpa using hz⟩
    · cases h
  | [], h => simp [DataW.trod, hu] at h
  | [.int _ _], h => simp [DataW.trod, hu] at h
  | [.float _ _], h => simp [DataW.trod, hu] at h
  | [.complex _ _ _], h => simp [DataW.trod, hu] at h
  | [.bool _], h => simp [DataW.trod, hu] at h
  | [.pointer _], h => simp [DataW.trod, hu] at h
  | [.slice _ _ _], h => simp [DataW.trod, hu] at h
  | [.map _], h => simp [DataW.trod, hu] at h
  | [.chan _], h => simp [DataW.trod, hu] at h
  | [.func _ _ _], h => simp [DataW.trod, hu] at h
  | [.nilFunc], h => simp [DataW.trod, hu] at h
  | [.iface _ _], h => simp [DataW.trod, hu] at h
  | [.nilIface], h => simp [DataW.trod, hu] at h
  | [.agg _], h => simp [DataW.trod, hu] at h
  | [.tuple _], h => simp [DataW.trod, hu] at h
  | _ :: _ :: _, h => simp [DataW.trod, hu] at h

theorem isI64_of {t : TypeId} (h : isI64 P t = true) : P.underlying t = some (.int .i64) := by
  unfold isI64 at h; split at h <;> first | assumption | cases h
theorem isF64_of {t : TypeId} (h : isF64 P t = true) : P.underlying t = some (.float .f64) := by
  unfold isF64 at h; split at h <;> first | assumption | cases h
theorem sliceOf_of {t : TypeId} {p : TypeId → Bool} (h : sliceOf P t p = true) : ∃ e, P.underlying t = some (.slice e) ∧ p e = true := by
  unfold sliceOf at h
  split at h
  · rename_i e he; exact ⟨e, he, h⟩
  · cases h
theorem fld_of {fs : List Field} {i : Nat} {p : TypeId → Bool} (h : fld fs i p P = true) : ∃ f, fs[i]? = some f ∧ f.offset = i ∧ P.cellsOf f.type = 1 ∧ p f.type = true := by
  unfold fld at h
  split at h
  · rename_i f hf
    simp only [Bool.and_eq_true] at h
    exact ⟨f, hf, Nat.eq_of_beq_eq_true h.1.1, Nat.eq_of_beq_eq_true h.1.2, h.2⟩
  · cases h
/-- What reads as data of a type is of the type's kind. -/
theorem kd_of : ∀ (fuel : Nat) (n : Nat) (t : TypeId) (κ : Kd) (cs : List Value) (d : DataW H) (ps : List MemPlace), DataW.trod enc P w 0 spare held fuel t cs = some (d, ps) → (∀ n ∈ d.weights P t, n ≤ reachBytes) → ktB P n t κ = true →
    ∃ x : Den κ, RP (Old w) w κ x cs ∧ wf κ x := by
  intro fuel
  induction fuel using Nat.strongRecOn with
  | _ fuel IH =>
    cases fuel with
    | zero => intro n t κ cs d ps h; simp [DataW.trod] at h
    | succ fuel =>
    have ih := IH fuel (by omega)
    intro n t κ cs d ps h hz hk
    cases n with
    | zero => simp [ktB] at hk
    | succ n =>
      have agg : ∀ (fs : List Field) (κ : Kd) (off : Nat), (∀ (i : Nat) (f : Field), fs[i]? = some f → ∃ d' p', DataW.trod enc P w 0 spare held fuel f.type ((cs.drop f.offset).take (P.cellsOf f.type)) = some (d', p') ∧ ∀ n ∈ d'.weights P f.type, n ≤ reachBytes) →
          ktF P (ktB P n) fs κ off = true → off + κ.size = cs.length → ∃ x : Den κ, RP (Old w) w κ x (cs.drop off) ∧ wf κ x := by
        intro fs
        induction fs with
        | nil =>
          intro κ off _ hf hl
          cases κ <;> first | (simp [ktF] at hf; done) | skip
          refine ⟨(), ?_, trivial⟩
          simp only [RP]
          exact List.drop_eq_nil_of_le (by simp only [Kd.size] at hl; omega)
        | cons f fs ihf =>
          intro κ off hall hf hl
          cases κ with
          | pair a b =>
            simp only [ktF, Bool.and_eq_true] at hf
            obtain ⟨⟨⟨h1, h2⟩, h3⟩, h4⟩ := hf
            have h1 := Nat.eq_of_beq_eq_true h1
            have h2 := Nat.eq_of_beq_eq_true h2
            obtain ⟨d', p', hd, hz'⟩ := hall 0 f rfl
            obtain ⟨x, hx, wx⟩ := ih n f.type a _ d' p' hd hz' h3
            obtain ⟨y, hy, wy⟩ := ihf b (off + a.size) (fun i g hg => hall (i + 1) g (by simpa using hg)) h4 (by simp only [Kd.size] at hl; omega)
            refine ⟨(x, y), ?_, wx, wy⟩
            simp only [RP]
            refine ⟨_, _, ?_, hx, hy⟩
            rw [h1, h2]
            conv => lhs; rw [← List.take_append_drop a.size (cs.drop off)]
            rw [List.drop_drop]
          | _ => simp [ktF] at hf
      unfold ktB at hk
      split at hk
      · rename_i hu
        obtain ⟨b, rfl⟩ := trod_bool hu h
        exact ⟨b, rfl, trivial⟩
      · rename_i k k' hu
        have e := of_decide_eq_true hk
        subst e
        obtain ⟨x, rfl, hw⟩ := trod_int hu h
        exact ⟨x, rfl, hw⟩
      · rename_i hu
        obtain ⟨x, rfl, hw⟩ := trod_float hu h
        exact ⟨x, rfl, hw⟩
      · rename_i hu
        obtain ⟨x, rfl, hw⟩ := trod_str hu h hz
        exact ⟨x, rfl, hw⟩
      · rename_i e κ' hu
        simp only [Bool.and_eq_true] at hk
        obtain ⟨⟨⟨h1, h2⟩, h3⟩, h4⟩ := hk
        obtain ⟨v, rfl⟩ := trod_one hu h
        obtain ⟨xs, a1, a2, a3⟩ := slice_RLf (E := RP (Old w) w κ') (W := wf κ') (Nat.eq_of_beq_eq_true h2) (Nat.le_of_ble_eq_true h3) (Nat.le_of_ble_eq_true h4) (fun cs d ps hh hz => ih n e κ' cs d ps hh hz h1) hu h hz
        exact ⟨xs, ⟨v, rfl, a1⟩, a2, a3⟩
      · rename_i e κ' hu
        simp only [Bool.and_eq_true] at hk
        obtain ⟨⟨⟨h1, h2⟩, h3⟩, h4⟩ := hk
        obtain ⟨v, rfl⟩ := trod_one hu h
        obtain ⟨xs, a1, a2, a3⟩ := slice_RLf (E := RP (Old w) w κ') (W := wf κ') (Nat.eq_of_beq_eq_true h2) (Nat.le_of_ble_eq_true h3) (Nat.le_of_ble_eq_true h4) (fun cs d ps hh hz => ih n e κ' cs d ps hh hz h1) hu h hz
        rcases trod_slice hu h hz with rfl | ⟨a, len, cap, rfl, _⟩
        · exact ⟨none, ⟨_, rfl, .inl ⟨rfl, rfl⟩⟩, trivial⟩
        · exact ⟨some xs, ⟨_, rfl, .inr ⟨xs, rfl, a1, a, len, cap, rfl⟩⟩, a2, a3⟩
      · rename_i fs hu
        simp only [geoB, Bool.and_eq_true] at hk
        obtain ⟨⟨⟨⟨⟨⟨⟨⟨hlen, hcs⟩, k0⟩, k1⟩, k2⟩, k3⟩, k4⟩, k5⟩, k6⟩ := hk
        obtain ⟨hl, hall⟩ := trod_structF hu h hz
        rw [Nat.eq_of_beq_eq_true hcs] at hl
        obtain ⟨f0, g0, o0, z0, u0⟩ := fld_of k0
        obtain ⟨f1, g1, o1, z1, u1⟩ := fld_of k1
        obtain ⟨f2, g2, o2, z2, u2⟩ := fld_of k2
        obtain ⟨f3, g3, o3, z3, u3⟩ := fld_of k3
        obtain ⟨f4, g4, o4, z4, u4⟩ := fld_of k4
        obtain ⟨f5, g5, o5, z5, u5⟩ := fld_of k5
        obtain ⟨f6, g6, o6, z6, u6⟩ := fld_of k6
        obtain ⟨d0, p0, t0, z0'⟩ := hall 0 f0 g0
        obtain ⟨d1, p1, t1, z1'⟩ := hall 1 f1 g1
        obtain ⟨d2, p2, t2, z2'⟩ := hall 2 f2 g2
        obtain ⟨d3, p3, t3, z3'⟩ := hall 3 f3 g3
        obtain ⟨d4, p4, t4, z4'⟩ := hall 4 f4 g4
        obtain ⟨d5, p5, t5, z5'⟩ := hall 5 f5 g5
        obtain ⟨d6, p6, t6, z6'⟩ := hall 6 f6 g6
        rw [o0, z0] at t0
        rw [o1, z1] at t1
        rw [o2, z2] at t2
        rw [o3, z3] at t3
        rw [o4, z4] at t4
        rw [o5, z5] at t5
        rw [o6, z6] at t6
        match cs, hl, t0, t1, t2, t3, t4, t5, t6 with
        | [c0, c1, c2, c3, c4, c5, c6], _, t0, t1, t2, t3, t4, t5, t6 =>
        simp only [List.drop_succ_cons, List.drop_zero, List.take_succ_cons, List.take_zero] at t0 t1 t2 t3 t4 t5 t6
        cases fuel with
        | zero => simp [DataW.trod] at t0
        | succ fuel =>
        obtain ⟨x0, e0, w0⟩ := trod_int (isI64_of u0) t0
        obtain ⟨x1, e1, w1⟩ := trod_int (isI64_of u1) t1
        obtain ⟨x2, e2, w2⟩ := trod_int (isI64_of u2) t2
        obtain ⟨s3, su3, pe3⟩ := sliceOf_of u3
        obtain ⟨s4, su4, pe4⟩ := sliceOf_of u4
        obtain ⟨s5, su5, pe5⟩ := sliceOf_of u5
        obtain ⟨s6, su6, pe6⟩ := sliceOf_of u6
        simp only [Bool.and_eq_true] at pe3 pe4 pe5 pe6
        obtain ⟨s5', su5', pe5'⟩ := sliceOf_of pe5.2
        simp only [Bool.and_eq_true] at pe5'
        have es6 := Nat.eq_of_beq_eq_true pe6.1
        simp only [List.cons.injEq, and_true] at e0 e1 e2
        subst e0 e1 e2
        have fl : ∀ (n : Nat) (s : TypeId), isF64 P s = true → ∀ cs d ps, DataW.trod enc P w 0 spare held n s cs = some (d, ps) → (∀ n ∈ d.weights P s, n ≤ reachBytes) → ∃ x : Nat, cs = [.float .f64 x] ∧ x < 2 ^ 64 := by
          intro n s hs cs d ps hh _
          cases n with
          | zero => simp [DataW.trod] at hh
          | succ n => exact trod_float (isF64_of hs) hh
        have it : ∀ (n : Nat) (s : TypeId), isI64 P s = true → ∀ cs d ps, DataW.trod enc P w 0 spare held n s cs = some (d, ps) → (∀ n ∈ d.weights P s, n ≤ reachBytes) → ∃ x : Int, cs = [.int .i64 x] ∧ (IntKind.i64.min ≤ x ∧ x ≤ IntKind.i64.max) := by
          intro n s hs cs d ps hh _
          cases n with
          | zero => simp [DataW.trod] at hh
          | succ n => exact trod_int (isI64_of hs) hh
        obtain ⟨x3, r3, l3, w3⟩ := slice_RLf (E := fun (b : Nat) es => es = [.float .f64 b]) (W := fun x : Nat => x < 2 ^ 64) (Nat.eq_of_beq_eq_true pe3.1.2) (Nat.le_refl 1) (Nat.le_of_ble_eq_true pe3.2) (fl fuel s3 pe3.1.1) su3 t3 z3'
        obtain ⟨x4, r4, l4, w4⟩ := slice_RLf (E := fun (n : Int) es => es = [.int .i64 n]) (W := fun x : Int => IntKind.i64.min ≤ x ∧ x ≤ IntKind.i64.max) (Nat.eq_of_beq_eq_true pe4.1.2) (Nat.le_refl 1) (Nat.le_of_ble_eq_true pe4.2) (it fuel s4 pe4.1.1) su4 t4 z4'
        obtain ⟨x5, r5, l5, w5⟩ := slice_RLf (E := fun (l : List Int) es => ∃ v, es = [v] ∧ RLf (Old w) w (fun (n : Int) es => es = [.int .i64 n]) 1 l v)
          (W := fun l : List Int => fits l.length 8 ∧ ∀ x ∈ l, IntKind.i64.min ≤ x ∧ x ≤ IntKind.i64.max) (Nat.eq_of_beq_eq_true pe5.1.1) (Nat.le_refl 1) (Nat.le_of_ble_eq_true pe5.1.2) (by
            intro cs d ps hh hz
            cases fuel with
            | zero => simp [DataW.trod] at hh
            | succ fuel =>
              obtain ⟨v, rfl⟩ := trod_one su5' hh
              obtain ⟨y, ry, ly, wy⟩ := slice_RLf (E := fun (n : Int) es => es = [.int .i64 n]) (W := fun x : Int => IntKind.i64.min ≤ x ∧ x ≤ IntKind.i64.max) (Nat.eq_of_beq_eq_true pe5'.1.2) (Nat.le_refl 1) (Nat.le_of_ble_eq_true pe5'.2) (it fuel s5' pe5'.1.1) su5' hh hz
              exact ⟨y, ⟨v, rfl, ry⟩, ly, wy⟩) su5 t5 z5'
        have ktT : ktB P (n + 1) t .geo = true := by
          unfold ktB
          rw [hu]
          simp only [geoB, Bool.and_eq_true]
          exact ⟨⟨⟨⟨⟨⟨⟨⟨hlen, hcs⟩, k0⟩, k1⟩, k2⟩, k3⟩, k4⟩, k5⟩, k6⟩
        obtain ⟨x6, r6, l6, w6⟩ := slice_RLf (E := RP (Old w) w .geo) (W := wf .geo) (sz := 7) (by rw [es6]; exact Nat.eq_of_beq_eq_true hcs) (by decide) (Nat.le_of_ble_eq_true pe6.2) (fun cs d ps hh hz => IH fuel (by omega) (n + 1) t .geo cs d ps (by rw [es6] at hh; exact hh) (by rw [es6] at hz; exact hz) ktT) su6 t6 z6'
        obtain ⟨a, c, e6, hc6, h6⟩ := r6
        subst e6
        refine ⟨Geo.mk x0 x1 x2 x3 x4 x5 x6, ?_, ?_⟩
        · simp only [RP, RG]
          refine ⟨c3, c4, c5, a, c, rfl, r3, r4, r5, hc6, ?_⟩
          rcases h6 with h6 | ⟨b, off, ha, hb, h6⟩
          · exact .inl h6
          · exact .inr ⟨b, off, ha, hb, RGs_of _ _ _ fun i x hx => h6 i x hx⟩
        · simp only [wf, wfG]
          exact ⟨w0, w1, w2, ⟨l3, w3⟩, ⟨l4, w4⟩, ⟨l5, w5⟩, l6, wfGs_mem fun g hg => by simpa only [wf] using w6 g hg⟩
      · rename_i fs a b hu
        simp only [Bool.and_eq_true] at hk
        obtain ⟨hl, hall⟩ := trod_structF hu h hz
        have := agg fs.toList (.pair a b) 0 hall hk.2 (by rw [hl, Nat.eq_of_beq_eq_true hk.1]; omega)
        simpa using this
      · rename_i fs hu
        simp only [Bool.and_eq_true] at hk
        obtain ⟨hl, hall⟩ := trod_structF hu h hz
        have := agg fs.toList .unit 0 hall hk.2 (by rw [hl, Nat.eq_of_beq_eq_true hk.1]; rfl)
        simpa using this
      · rename_i m e a b hu
        simp only [Bool.and_eq_true] at hk
        obtain ⟨xs, f', hf', hd, hl, hxl, hel⟩ := DataW.trod_array hu h
        have ef : f' = fuel := by omega
        subst ef
        simp only [Prod.mk.injEq] at hd
        rw [hd.1] at hz
        simp only [DataW.weights, hu] at hz
        have elem : ∀ i, i < m → ∃ d' p', DataW.trod enc P w 0 spare held f' e ((cs.drop (i * P.cellsOf e)).take (P.cellsOf e)) = some (d', p') ∧ ∀ n ∈ d'.weights P e, n ≤ reachBytes := fun i hi => by
          have h4 := hel i hi
          rw [List.getElem?_eq_getElem (by omega)] at h4
          exact ⟨_, _, h4, fun n hn => hz n (weightsAll_mem (List.mem_map.2 ⟨xs[i]'(by omega), List.getElem_mem _, rfl⟩) hn)⟩
        have arr : ∀ (c i : Nat) (κ : Kd), i + c = m → ktA P (ktB P n) e c κ = true → i * P.cellsOf e + κ.size = cs.length → ∃ x : Den κ, RP (Old w) w κ x (cs.drop (i * P.cellsOf e)) ∧ wf κ x := by
          intro c
          induction c with
          | zero =>
            intro i κ _ hf hl
            cases κ <;> first | (simp [ktA] at hf; done) | skip
            refine ⟨(), ?_, trivial⟩
            simp only [RP]
            exact List.drop_eq_nil_of_le (by simp only [Kd.size] at hl; omega)
          | succ c ihc =>
            intro i κ hi hf hl
            cases κ with
            | pair a b =>
              simp only [ktA, Bool.and_eq_true] at hf
              obtain ⟨⟨h1, h2⟩, h3⟩ := hf
              have h2 := Nat.eq_of_beq_eq_true h2
              obtain ⟨d', p', hd, hz'⟩ := elem i (by omega)
              obtain ⟨x, hx, wx⟩ := ih n e a _ d' p' hd hz' h1
              obtain ⟨y, hy, wy⟩ := ihc (i + 1) b (by omega) h3 (by simp only [Kd.size] at hl; rw [Nat.add_mul, Nat.one_mul, h2]; rw [h2] at hl; omega)
              refine ⟨(x, y), ?_, wx, wy⟩
              simp only [RP]
              refine ⟨_, _, ?_, hx, hy⟩
              conv => lhs; rw [← List.take_append_drop (P.cellsOf e) (cs.drop (i * P.cellsOf e))]
              rw [List.drop_drop, Nat.add_mul, Nat.one_mul]
            | _ => simp [ktA] at hf
        have := arr m 0 (.pair a b) (by omega) hk.2 (by rw [hl, Nat.eq_of_beq_eq_true hk.1]; omega)
        simpa using this
      · cases hk
end
end Go.Av
