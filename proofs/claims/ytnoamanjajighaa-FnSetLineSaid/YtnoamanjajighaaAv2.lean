/- What an abstract value and an abstract memory stand for in a world of the model, and what keeps it. -/
import Derived.Test.YtnoamanjajighaaAv1
set_option linter.unusedVariables false
namespace Go.Av
open Go Go.RowKit

/-! ### plain data in memory -/
/-- The cells of x lie in the block b from off on. -/
def Lie (w : World) (es : List Value) (b off : Nat) : Prop := ∀ j u, es[j]? = some u → w.cell? ⟨b, off + j, none⟩ = some u
def RLf {α : Type} (Fz : Nat → Prop) (w : World) (E : α → List Value → Prop) (sz : Nat) (xs : List α) (v : Value) : Prop :=
  ∃ a c, v = .slice a xs.length c ∧ xs.length ≤ c ∧ (xs = [] ∨ ∃ b off, a = some ⟨b, off, none⟩ ∧ Fz b ∧ ∀ i x, xs[i]? = some x → ∃ es, E x es ∧ es.length = sz ∧ Lie w es b (off + i * sz))
mutual
def RG (Fz : Nat → Prop) (w : World) : Geo → List Value → Prop
  | .mk kd ly sr flat ends endss kids, cs => ∃ v3 v4 v5 a c, cs = [.int .i64 kd, .int .i64 ly, .int .i64 sr, v3, v4, v5, .slice a kids.length c] ∧
      RLf Fz w (fun (b : Nat) es => es = [.float .f64 b]) 1 flat v3 ∧ RLf Fz w (fun (n : Int) es => es = [.int .i64 n]) 1 ends v4 ∧
      RLf Fz w (fun (l : List Int) es => ∃ v, es = [v] ∧ RLf Fz w (fun (n : Int) es => es = [.int .i64 n]) 1 l v) 1 endss v5 ∧
      kids.length ≤ c ∧ (kids = [] ∨ ∃ b off, a = some ⟨b, off, none⟩ ∧ Fz b ∧ RGs Fz w kids b off)
def RGs (Fz : Nat → Prop) (w : World) : List Geo → Nat → Nat → Prop
  | [], _, _ => True
  | g :: r, b, off => (∃ es, RG Fz w g es ∧ es.length = 7 ∧ Lie w es b off) ∧ RGs Fz w r b (off + 7)
end
mutual
/-- What a tree of frozen cells stands for. -/
def RC (Fz : Nat → Prop) (w : World) : Ce → Value → Prop
  | .int k n, v => v = .int k n
  | .flt b, v => v = .float .f64 b
  | .boo b, v => v = .bool b
  | .str s, v => v = .string s
  | .fl xs, v => RLf Fz w (fun (b : Nat) es => es = [.float .f64 b]) 1 xs v
  | .il xs, v => RLf Fz w (fun (n : Int) es => es = [.int .i64 n]) 1 xs v
  | .ill xs, v => RLf Fz w (fun (l : List Int) es => ∃ v, es = [v] ∧ RLf Fz w (fun (n : Int) es => es = [.int .i64 n]) 1 l v) 1 xs v
  | .nl, v => v = .slice none 0 0
  | .sl xs, v => ∃ a c, v = .slice a xs.length c ∧ xs.length ≤ c ∧ (xs = [] ∨ ∃ b off, a = some ⟨b, off, none⟩ ∧ Fz b ∧ RCs Fz w xs b off)
  | .nilp, v => v = .pointer none
  | .ptr cs, v => ∃ b off, v = .pointer (some ⟨b, off, none⟩) ∧ Fz b ∧ RCs Fz w cs b off
  | .nili, v => v = .nilIface
  | .ifc t c, v => ∃ u, v = .iface t u ∧ RC Fz w c u
  | .ifa t cs, v => ∃ us : Array Value, v = .iface t (.agg us) ∧ RCv Fz w cs us.toList
def RCs (Fz : Nat → Prop) (w : World) : List Ce → Nat → Nat → Prop
  | [], _, _ => True
  | c :: r, b, off => (∃ u, RC Fz w c u ∧ w.cell? ⟨b, off, none⟩ = some u) ∧ RCs Fz w r b (off + 1)
def RCv (Fz : Nat → Prop) (w : World) : List Ce → List Value → Prop
  | [], us => us = []
  | c :: r, us => ∃ u q, us = u :: q ∧ RC Fz w c u ∧ RCv Fz w r q
end
def RP (Fz : Nat → Prop) (w : World) : (κ : Kd) → Den κ → List Value → Prop
  | .int k, n, cs => cs = [.int k n]
  | .float, b, cs => cs = [.float .f64 b]
  | .bool, b, cs => cs = [.bool b]
  | .str, s, cs => cs = [.string s]
  | .list e, xs, cs => ∃ v, cs = [v] ∧ RLf Fz w (RP Fz w e) e.size xs v
  | .unit, _, cs => cs = []
  | .pair a b, x, cs => ∃ c1 c2, cs = c1 ++ c2 ∧ RP Fz w a x.1 c1 ∧ RP Fz w b x.2 c2
  | .geo, g, cs => RG Fz w g cs
  | .any, c, cs => ∃ v, cs = [v] ∧ RC Fz w c v
  | .nl e, o, cs => ∃ v, cs = [v] ∧ ((o = none ∧ v = .slice none 0 0) ∨ ∃ xs, o = some xs ∧ RLf Fz w (RP Fz w e) e.size xs v ∧ ∃ a l c, v = .slice (some a) l c)

theorem Lie.mono {w w' : World} {es : List Value} {b off : Nat} (h : Lie w es b off) (hb : w'.heap[b]? = w.heap[b]?) : Lie w' es b off := by
  intro j u hj
  have := h j u hj
  unfold World.cell? at this ⊢
  rw [hb]; exact this

theorem RLf.mono {α : Type} {Fz Fz' : Nat → Prop} {w w' : World} {E E' : α → List Value → Prop} {sz : Nat} {xs : List α} {v : Value}
    (hw : ∀ b, Fz b → w'.heap[b]? = w.heap[b]?) (hf : ∀ b, Fz b → Fz' b) (hE : ∀ x ∈ xs, ∀ es, E x es → E' x es) (h : RLf Fz w E sz xs v) : RLf Fz' w' E' sz xs v := by
  obtain ⟨a, c, e, hl, h⟩ := h
  refine ⟨a, c, e, hl, ?_⟩
  rcases h with h | ⟨b, off, ha, hb, h⟩
  · exact .inl h
  · refine .inr ⟨b, off, ha, hf _ hb, fun i x hx => ?_⟩
    obtain ⟨es, h1, h2, h3⟩ := h i x hx
    exact ⟨es, hE x (List.mem_of_getElem? hx) _ h1, h2, h3.mono (hw _ hb)⟩

mutual
theorem RG_mono {Fz Fz' : Nat → Prop} {w w' : World} (hw : ∀ b, Fz b → w'.heap[b]? = w.heap[b]?) (hf : ∀ b, Fz b → Fz' b) :
    ∀ (g : Geo) (cs : List Value), RG Fz w g cs → RG Fz' w' g cs
  | .mk kd ly sr flat ends endss kids, cs, h => by
    simp only [RG] at h ⊢
    obtain ⟨v3, v4, v5, a, c, e, h3, h4, h5, hl, h6⟩ := h
    refine ⟨v3, v4, v5, a, c, e, h3.mono hw hf (fun _ _ _ h => h), h4.mono hw hf (fun _ _ _ h => h), h5.mono hw hf ?_, hl, ?_⟩
    · rintro x _ es ⟨v, e, h⟩
      exact ⟨v, e, h.mono hw hf (fun _ _ _ h => h)⟩
    · rcases h6 with h6 | ⟨b, off, ha, hb, h6⟩
      · exact .inl h6
      · exact .inr ⟨b, off, ha, hf _ hb, RGs_mono hw hf kids b off (hw _ hb) h6⟩
theorem RGs_mono {Fz Fz' : Nat → Prop} {w w' : World} (hw : ∀ b, Fz b → w'.heap[b]? = w.heap[b]?) (hf : ∀ b, Fz b → Fz' b) :
    ∀ (l : List Geo) (b off : Nat), w'.heap[b]? = w.heap[b]? → RGs Fz w l b off → RGs Fz' w' l b off
  | [], _, _, _, _ => by simp only [RGs]
  | g :: r, b, off, hb, h => by
    simp only [RGs] at h ⊢
    obtain ⟨⟨es, h1, h2, h3⟩, h4⟩ := h
    exact ⟨⟨es, RG_mono hw hf g es h1, h2, h3.mono hb⟩, RGs_mono hw hf r b (off + 7) hb h4⟩
end
theorem RGs_at {Fz : Nat → Prop} {w : World} : ∀ (l : List Geo) (b off i : Nat) (x : Geo), RGs Fz w l b off → l[i]? = some x → ∃ es, RG Fz w x es ∧ es.length = 7 ∧ Lie w es b (off + i * 7)
  | [], _, _, _, _, _, h => by simp at h
  | g :: r, b, off, 0, x, h, hx => by
    simp only [RGs] at h
    simp only [List.getElem?_cons_zero, Option.some.injEq] at hx
    subst hx
    simpa using h.1
  | g :: r, b, off, i + 1, x, h, hx => by
    simp only [RGs] at h
    have := RGs_at r b (off + 7) i x h.2 (by simpa using hx)
    rwa [show off + 7 + i * 7 = off + (i + 1) * 7 by omega] at this
theorem RGs_of {Fz : Nat → Prop} {w : World} : ∀ (l : List Geo) (b off : Nat), (∀ i x, l[i]? = some x → ∃ es, RG Fz w x es ∧ es.length = 7 ∧ Lie w es b (off + i * 7)) → RGs Fz w l b off
  | [], _, _, _ => by simp only [RGs]
  | g :: r, b, off, h => by
    simp only [RGs]
    refine ⟨by simpa using h 0 g (by simp), RGs_of r b (off + 7) fun i x hx => ?_⟩
    have := h (i + 1) x (by simpa using hx)
    rwa [show off + (i + 1) * 7 = off + 7 + i * 7 by omega] at this

mutual
theorem RC_mono {Fz Fz' : Nat → Prop} {w w' : World} (hw : ∀ b, Fz b → w'.heap[b]? = w.heap[b]?) (hf : ∀ b, Fz b → Fz' b) :
    ∀ (c : Ce) (v : Value), RC Fz w c v → RC Fz' w' c v
  | .int _ _, _, h => by simpa only [RC] using h
  | .flt _, _, h => by simpa only [RC] using h
  | .boo _, _, h => by simpa only [RC] using h
  | .str _, _, h => by simpa only [RC] using h
  | .fl _, _, h => by simp only [RC] at h ⊢; exact h.mono hw hf (fun _ _ _ h => h)
  | .il _, _, h => by simp only [RC] at h ⊢; exact h.mono hw hf (fun _ _ _ h => h)
  | .ill _, _, h => by
    simp only [RC] at h ⊢
    refine h.mono hw hf ?_
    rintro x _ es ⟨v, e, h⟩
    exact ⟨v, e, h.mono hw hf (fun _ _ _ h => h)⟩
  | .nl, _, h => by simpa only [RC] using h
  | .sl xs, _, h => by
    simp only [RC] at h ⊢
    obtain ⟨a, c, e, hl, h6⟩ := h
    refine ⟨a, c, e, hl, ?_⟩
    rcases h6 with h6 | ⟨b, off, ha, hb, h6⟩
    · exact .inl h6
    · exact .inr ⟨b, off, ha, hf _ hb, RCs_mono hw hf xs b off (hw _ hb) h6⟩
  | .nilp, _, h => by simpa only [RC] using h
  | .ptr cs, _, h => by
    simp only [RC] at h ⊢
    obtain ⟨b, off, e, hb, h6⟩ := h
    exact ⟨b, off, e, hf _ hb, RCs_mono hw hf cs b off (hw _ hb) h6⟩
  | .nili, _, h => by simpa only [RC] using h
  | .ifc t c, _, h => by
    simp only [RC] at h ⊢
    obtain ⟨u, e, h⟩ := h
    exact ⟨u, e, RC_mono hw hf c u h⟩
  | .ifa t cs, _, h => by
    simp only [RC] at h ⊢
    obtain ⟨u, e, h⟩ := h
    exact ⟨u, e, RCv_mono hw hf cs _ h⟩
theorem RCs_mono {Fz Fz' : Nat → Prop} {w w' : World} (hw : ∀ b, Fz b → w'.heap[b]? = w.heap[b]?) (hf : ∀ b, Fz b → Fz' b) :
    ∀ (l : List Ce) (b off : Nat), w'.heap[b]? = w.heap[b]? → RCs Fz w l b off → RCs Fz' w' l b off
  | [], _, _, _, _ => by simp only [RCs]
  | c :: r, b, off, hb, h => by
    simp only [RCs] at h ⊢
    obtain ⟨⟨u, h1, h2⟩, h4⟩ := h
    exact ⟨⟨u, RC_mono hw hf c u h1, by unfold World.cell? at h2 ⊢; rw [hb]; exact h2⟩, RCs_mono hw hf r b (off + 1) hb h4⟩
theorem RCv_mono {Fz Fz' : Nat → Prop} {w w' : World} (hw : ∀ b, Fz b → w'.heap[b]? = w.heap[b]?) (hf : ∀ b, Fz b → Fz' b) :
    ∀ (l : List Ce) (us : List Value), RCv Fz w l us → RCv Fz' w' l us
  | [], _, h => by simpa only [RCv] using h
  | c :: r, us, h => by
    simp only [RCv] at h ⊢
    obtain ⟨u, q, e, h1, h2⟩ := h
    exact ⟨u, q, e, RC_mono hw hf c u h1, RCv_mono hw hf r q h2⟩
end
theorem RCs_at {Fz : Nat → Prop} {w : World} : ∀ (l : List Ce) (b off i : Nat) (x : Ce), RCs Fz w l b off → l[i]? = some x → ∃ u, RC Fz w x u ∧ w.cell? ⟨b, off + i, none⟩ = some u
  | [], _, _, _, _, _, h => by simp at h
  | c :: r, b, off, 0, x, h, hx => by
    simp only [RCs] at h
    simp only [List.getElem?_cons_zero, Option.some.injEq] at hx
    subst hx
    exact h.1
  | c :: r, b, off, i + 1, x, h, hx => by
    simp only [RCs] at h
    have := RCs_at r b (off + 1) i x h.2 (by simpa using hx)
    rwa [show off + 1 + i = off + (i + 1) by omega] at this
theorem RCs_of {Fz : Nat → Prop} {w : World} : ∀ (l : List Ce) (b off : Nat), (∀ i x, l[i]? = some x → ∃ u, RC Fz w x u ∧ w.cell? ⟨b, off + i, none⟩ = some u) → RCs Fz w l b off
  | [], _, _, _ => by simp only [RCs]
  | g :: r, b, off, h => by
    simp only [RCs]
    refine ⟨by simpa using h 0 g (by simp), RCs_of r b (off + 1) fun i x hx => ?_⟩
    have := h (i + 1) x (by simpa using hx)
    rwa [show off + (i + 1) = off + 1 + i by omega] at this
theorem RC_one {Fz : Nat → Prop} {w : World} {c : Ce} {v : Value} (h : RC Fz w c v) : v.oneCell' = true := by
  cases c <;> simp only [RC] at h
  case fl => obtain ⟨_, _, rfl, _⟩ := h; rfl
  case il => obtain ⟨_, _, rfl, _⟩ := h; rfl
  case ill => obtain ⟨_, _, rfl, _⟩ := h; rfl
  case sl => obtain ⟨_, _, rfl, _⟩ := h; rfl
  case ptr => obtain ⟨_, _, rfl, _⟩ := h; rfl
  case ifc => obtain ⟨_, rfl, _⟩ := h; rfl
  case ifa => obtain ⟨_, rfl, _⟩ := h; rfl
  all_goals (subst h; rfl)
theorem RP_mono {Fz Fz' : Nat → Prop} {w w' : World} (hw : ∀ b, Fz b → w'.heap[b]? = w.heap[b]?) (hf : ∀ b, Fz b → Fz' b) :
    ∀ (κ : Kd) (x : Den κ) (cs : List Value), RP Fz w κ x cs → RP Fz' w' κ x cs
  | .int _, _, _, h => h
  | .float, _, _, h => h
  | .bool, _, _, h => h
  | .str, _, _, h => h
  | .list e, xs, cs, ⟨v, hc, h⟩ => ⟨v, hc, h.mono hw hf fun x _ es h => RP_mono hw hf e x es h⟩
  | .unit, _, _, h => h
  | .pair a b, x, cs, ⟨c1, c2, hc, h1, h2⟩ => ⟨c1, c2, hc, RP_mono hw hf a x.1 c1 h1, RP_mono hw hf b x.2 c2 h2⟩
  | .geo, g, cs, h => RG_mono hw hf g cs h
  | .any, c, cs, ⟨v, hc, h⟩ => ⟨v, hc, RC_mono hw hf c v h⟩
  | .nl e, o, cs, ⟨v, hc, h⟩ => ⟨v, hc, h.imp id fun ⟨xs, h1, h2, h3⟩ => ⟨xs, h1, h2.mono hw hf fun x _ es h => RP_mono hw hf e x es h, h3⟩⟩

theorem RP_plain {Fz Fz' : Nat → Prop} {w w' : World} : ∀ (κ : Kd) (x : Den κ) (cs : List Value), κ.plain = true → RP Fz w κ x cs → RP Fz' w' κ x cs
  | .int _, _, _, _, h => h
  | .float, _, _, _, h => h
  | .bool, _, _, _, h => h
  | .str, _, _, _, h => h
  | .list _, _, _, hp, _ => by simp [Kd.plain] at hp
  | .unit, _, _, _, h => h
  | .pair a b, x, cs, hp, ⟨c1, c2, hc, h1, h2⟩ => by
    simp only [Kd.plain, Bool.and_eq_true] at hp
    exact ⟨c1, c2, hc, RP_plain a x.1 c1 hp.1 h1, RP_plain b x.2 c2 hp.2 h2⟩
  | .geo, _, _, hp, _ => by simp [Kd.plain] at hp
  | .any, _, _, hp, _ => by simp [Kd.plain] at hp
  | .nl _, _, _, hp, _ => by simp [Kd.plain] at hp

theorem RG_len {Fz : Nat → Prop} {w : World} {g : Geo} {cs : List Value} (h : RG Fz w g cs) : cs.length = 7 := by
  cases g; simp only [RG] at h
  obtain ⟨_, _, _, _, _, rfl, _⟩ := h
  rfl
theorem RP_len {Fz : Nat → Prop} {w : World} : ∀ (κ : Kd) (x : Den κ) (cs : List Value), RP Fz w κ x cs → cs.length = κ.size
  | .int _, _, _, h => by rw [h]; rfl
  | .float, _, _, h => by rw [h]; rfl
  | .bool, _, _, h => by rw [h]; rfl
  | .str, _, _, h => by rw [h]; rfl
  | .list e, xs, cs, ⟨v, hc, _⟩ => by rw [hc]; rfl
  | .unit, _, _, h => by rw [h]; rfl
  | .pair a b, x, cs, ⟨c1, c2, hc, h1, h2⟩ => by rw [hc, List.length_append, RP_len a _ _ h1, RP_len b _ _ h2]; rfl
  | .geo, g, cs, h => RG_len h
  | .any, c, cs, ⟨v, hc, _⟩ => by rw [hc]; rfl
  | .nl e, o, cs, ⟨v, hc, _⟩ => by rw [hc]; rfl
theorem RLf_one {α : Type} {Fz : Nat → Prop} {w : World} {E : α → List Value → Prop} {sz : Nat} {xs : List α} {v : Value} (h : RLf Fz w E sz xs v) : v.oneCell' = true := by
  obtain ⟨_, _, rfl, _⟩ := h; rfl
theorem RG_one {Fz : Nat → Prop} {w : World} {g : Geo} {cs : List Value} (h : RG Fz w g cs) : ∀ u ∈ cs, u.oneCell' = true := by
  cases g; simp only [RG] at h
  obtain ⟨_, _, _, _, _, rfl, h3, h4, h5, _⟩ := h
  intro u hu
  simp only [List.mem_cons, List.not_mem_nil, or_false] at hu
  rcases hu with rfl | rfl | rfl | rfl | rfl | rfl | rfl
  · rfl
  · rfl
  · rfl
  · exact RLf_one h3
  · exact RLf_one h4
  · exact RLf_one h5
  · rfl
theorem RP_one {Fz : Nat → Prop} {w : World} : ∀ (κ : Kd) (x : Den κ) (cs : List Value), RP Fz w κ x cs → ∀ u ∈ cs, u.oneCell' = true
  | .int _, _, _, h => by rw [h]; intro u hu; rw [List.mem_singleton.1 hu]; rfl
  | .float, _, _, h => by rw [h]; intro u hu; rw [List.mem_singleton.1 hu]; rfl
  | .bool, _, _, h => by rw [h]; intro u hu; rw [List.mem_singleton.1 hu]; rfl
  | .str, _, _, h => by rw [h]; intro u hu; rw [List.mem_singleton.1 hu]; rfl
  | .list e, xs, cs, ⟨v, hc, h⟩ => by rw [hc]; intro u hu; rw [List.mem_singleton.1 hu]; exact RLf_one h
  | .unit, _, _, h => by rw [h]; intro u hu; simp at hu
  | .pair a b, x, cs, ⟨c1, c2, hc, h1, h2⟩ => by
    rw [hc]; intro u hu
    rcases List.mem_append.1 hu with hu | hu
    · exact RP_one a _ _ h1 u hu
    · exact RP_one b _ _ h2 u hu
  | .geo, g, cs, h => RG_one h
  | .any, c, cs, ⟨v, hc, h⟩ => by rw [hc]; intro u hu; rw [List.mem_singleton.1 hu]; exact RC_one h
  | .nl e, o, cs, ⟨v, hc, h⟩ => by
    rw [hc]; intro u hu; rw [List.mem_singleton.1 hu]
    rcases h with ⟨_, rfl⟩ | ⟨xs, _, h, _⟩
    · rfl
    · exact RLf_one h

/-! ### abstract values -/
structure HI where
  blk : Nat
  cap : Nat
  len : Nat
  virt : Bool
/-- Not a number. -/
def NanB (n : Nat) : Prop := ∀ m, Ieee.double.order m n = none ∧ Ieee.double.order n m = none
mutual
def RV (ι : Nat → HI) (Fz : Nat → Prop) (w : World) : AV → Value → Prop
  | .pv κ x, v => if κ.isAgg then ∃ vs : Array Value, v = .agg vs ∧ RP Fz w κ x vs.toList else RP Fz w κ x [v]
  | .nils, v => v = .slice none 0 0
  | .agg cs, v => ∃ vs : List Value, v = .agg vs.toArray ∧ (∀ u ∈ vs, u.oneCell' = true) ∧ RVs ι Fz w cs vs
  | .own _ h, v => ((ι h).virt = true ∧ v = .slice none 0 0) ∨ ((ι h).virt = false ∧ v = .slice (some ⟨(ι h).blk, 0, none⟩) (ι h).len (ι h).cap)
  | .sub κ h off len, v => off + len ≤ (ι h).len ∧ ((len = 0 ∧ ∃ a c, v = .slice a 0 c ∧ (off = 0 → (ι h).virt = false → a = some ⟨(ι h).blk, 0, none⟩ ∧ c = (ι h).cap)) ∨ ((ι h).virt = false ∧ ∃ c, v = .slice (some ⟨(ι h).blk, off * κ.size, none⟩) len c ∧ len ≤ c ∧ off + c = (ι h).cap))
  | .ref h off, v => (ι h).virt = false ∧ v = .pointer (some ⟨(ι h).blk, off, none⟩)
  | .eref κ x, v => ∃ b off es, v = .pointer (some ⟨b, off, none⟩) ∧ Fz b ∧ RP Fz w κ x es ∧ Lie w es b off
  | .aref κ h idx, v => (ι h).virt = false ∧ idx < (ι h).len ∧ v = .pointer (some ⟨(ι h).blk, idx * κ.size, none⟩)
  | .nilp, v => v = .pointer none
  | .gi t g, v => v = .pointer (some ⟨g, 0, none⟩) ∧ Fz g ∧ ∃ a, Lie w [.iface t (.pointer (some a))] g 0
  | .mf t nm, v => ∃ a c, v = .func (.method nm) #[.iface t (.pointer (some a))] c
  | .ep g, v => ∃ t a, v = .pointer (some a) ∧ Fz g ∧ Lie w [.iface t (.pointer (some a))] g 0
  | .niliface, v => v = .nilIface
  | .iface t x, v => ∃ u, v = .iface t u ∧ RV ι Fz w x u
  | .func f caps, v => ∃ vs : List Value, v = .func (.func f) #[] vs.toArray ∧ RVs ι Fz w caps vs
  | .nilf, v => v = .nilFunc
  | .nanv, v => ∃ n, v = .float .f64 n ∧ NanB n
  | .bsl h n, v => (ι h).virt = false ∧ v = .slice (some ⟨(ι h).blk, 0, none⟩) n n
  | .capd κ xs, v => RLf Fz w (RP Fz w κ) κ.size xs v ∧ ∃ a, v = .slice a xs.length xs.length
  | .tuple cs, v => ∃ vs : List Value, v = .tuple vs.toArray ∧ RVs ι Fz w cs vs
  | .dead, _ => True
def RVs (ι : Nat → HI) (Fz : Nat → Prop) (w : World) : List AV → List Value → Prop
  | [], vs => vs = []
  | c :: cs, vs => ∃ v r, vs = v :: r ∧ RV ι Fz w c v ∧ RVs ι Fz w cs r
end

mutual
theorem RV_mono {ι ι' : Nat → HI} {Fz Fz' : Nat → Prop} {w w' : World} (hw : ∀ b, Fz b → w'.heap[b]? = w.heap[b]?) (hf : ∀ b, Fz b → Fz' b) :
    ∀ (a : AV) (v : Value), (∀ h, a.ment h = true → ι' h = ι h) → RV ι Fz w a v → RV ι' Fz' w' a v
  | .pv κ x, v, _, h => by
    simp only [RV] at h ⊢
    split
    · rename_i hk
      simp only [hk, if_true] at h
      obtain ⟨vs, e, h⟩ := h
      exact ⟨vs, e, RP_mono hw hf _ _ _ h⟩
    · rename_i hk
      simp only [hk] at h
      exact RP_mono hw hf _ _ _ h
  | .nils, v, _, h => by simpa only [RV] using h
  | .agg cs, v, hm, h => by
    simp only [RV] at h ⊢
    obtain ⟨vs, e, h1, h2⟩ := h
    exact ⟨vs, e, h1, RVs_mono hw hf cs vs (fun h hh => hm h (by simpa [AV.ment] using hh)) h2⟩
  | .own κ g, v, hm, h => by simp only [RV] at h ⊢; rw [hm g (by simp [AV.ment])]; exact h
  | .sub κ g _ _, v, hm, h => by simp only [RV] at h ⊢; rw [hm g (by simp [AV.ment])]; exact h
  | .ref g _, v, hm, h => by simp only [RV] at h ⊢; rw [hm g (by simp [AV.ment])]; exact h
  | .eref κ x, v, _, h => by
    simp only [RV] at h ⊢
    obtain ⟨b, off, es, e, hb, h1, h2⟩ := h
    exact ⟨b, off, es, e, hf _ hb, RP_mono hw hf _ _ _ h1, h2.mono (hw _ hb)⟩
  | .aref κ g _, v, hm, h => by simp only [RV] at h ⊢; rw [hm g (by simp [AV.ment])]; exact h
  | .nilp, v, _, h => by simpa only [RV] using h
  | .gi t g, v, _, h => by
    simp only [RV] at h ⊢
    obtain ⟨e, hb, a, hl⟩ := h
    exact ⟨e, hf _ hb, a, hl.mono (hw _ hb)⟩
  | .mf t nm, v, _, h => by simpa only [RV] using h
  | .ep g, v, _, h => by
    simp only [RV] at h ⊢
    obtain ⟨t, a, e, hb, hl⟩ := h
    exact ⟨t, a, e, hf _ hb, hl.mono (hw _ hb)⟩
  | .niliface, v, _, h => by simpa only [RV] using h
  | .iface t x, v, hm, h => by
    simp only [RV] at h ⊢
    obtain ⟨u, e, h⟩ := h
    exact ⟨u, e, RV_mono hw hf x u (fun h hh => hm h (by simpa [AV.ment] using hh)) h⟩
  | .func f cs, v, hm, h => by
    simp only [RV] at h ⊢
    obtain ⟨vs, e, h2⟩ := h
    exact ⟨vs, e, RVs_mono hw hf cs vs (fun h hh => hm h (by simpa [AV.ment] using hh)) h2⟩
  | .nilf, v, _, h => by simpa only [RV] using h
  | .nanv, v, _, h => by simpa only [RV] using h
  | .bsl g _, v, hm, h => by simp only [RV] at h ⊢; rw [hm g (by simp [AV.ment])]; exact h
  | .capd κ xs, v, _, h => by
    simp only [RV] at h ⊢
    exact ⟨h.1.mono hw hf fun x _ es h => RP_mono hw hf κ x es h, h.2⟩
  | .tuple cs, v, hm, h => by
    simp only [RV] at h ⊢
    obtain ⟨vs, e, h2⟩ := h
    exact ⟨vs, e, RVs_mono hw hf cs vs (fun h hh => hm h (by simpa [AV.ment] using hh)) h2⟩
  | .dead, v, _, h => by simp only [RV]
theorem RVs_mono {ι ι' : Nat → HI} {Fz Fz' : Nat → Prop} {w w' : World} (hw : ∀ b, Fz b → w'.heap[b]? = w.heap[b]?) (hf : ∀ b, Fz b → Fz' b) :
    ∀ (cs : List AV) (vs : List Value), (∀ h, mentL h cs = true → ι' h = ι h) → RVs ι Fz w cs vs → RVs ι' Fz' w' cs vs
  | [], vs, _, h => by simpa only [RVs] using h
  | c :: cs, vs, hm, h => by
    simp only [RVs] at h ⊢
    obtain ⟨v, r, e, h1, h2⟩ := h
    exact ⟨v, r, e, RV_mono hw hf c v (fun h hh => hm h (by simp [mentL, hh])) h1, RVs_mono hw hf cs r (fun h hh => hm h (by simp [mentL, hh])) h2⟩
end
theorem RV_strike {ι ι' : Nat → HI} {Fz Fz' : Nat → Prop} {w w' : World} (hw : ∀ b, Fz b → w'.heap[b]? = w.heap[b]?) (hf : ∀ b, Fz b → Fz' b)
    {d : Nat} (hd : ∀ h, h ≠ d → ι' h = ι h) {a : AV} {v : Value} (h : RV ι Fz w a v) : RV ι' Fz' w' (a.strike d) v := by
  unfold AV.strike
  cases hm : a.ment d with
  | true => simp [RV]
  | false =>
    simp only [cond_false]
    exact RV_mono hw hf a v (fun h hh => hd h (fun e => by rw [e, hm] at hh; cases hh)) h
theorem RVs_strike {ι ι' : Nat → HI} {Fz Fz' : Nat → Prop} {w w' : World} (hw : ∀ b, Fz b → w'.heap[b]? = w.heap[b]?) (hf : ∀ b, Fz b → Fz' b)
    {d : Nat} (hd : ∀ h, h ≠ d → ι' h = ι h) : ∀ {cs : List AV} {vs : List Value}, RVs ι Fz w cs vs → RVs ι' Fz' w' (cs.map (AV.strike d)) vs
  | [], vs, h => by simp only [RVs, List.map_nil] at h ⊢; exact h
  | c :: cs, vs, h => by
    simp only [RVs, List.map_cons] at h ⊢
    obtain ⟨v, r, e, h1, h2⟩ := h
    exact ⟨v, r, e, RV_strike hw hf hd h1, RVs_strike hw hf hd h2⟩
theorem RVs_len {ι : Nat → HI} {Fz : Nat → Prop} {w : World} : ∀ {cs : List AV} {vs : List Value}, RVs ι Fz w cs vs → cs.length = vs.length
  | [], vs, h => by simp only [RVs] at h; subst h; rfl
  | c :: cs, vs, h => by
    simp only [RVs] at h
    obtain ⟨v, r, e, _, h2⟩ := h
    rw [e, List.length_cons, List.length_cons, RVs_len h2]
theorem RVs_at {ι : Nat → HI} {Fz : Nat → Prop} {w : World} : ∀ {cs : List AV} {vs : List Value} {i : Nat} {c : AV}, RVs ι Fz w cs vs → cs[i]? = some c → ∃ v, vs[i]? = some v ∧ RV ι Fz w c v
  | [], _, _, _, _, h => by simp at h
  | c :: cs, vs, i, x, h, hx => by
    simp only [RVs] at h
    obtain ⟨v, r, e, h1, h2⟩ := h
    subst e
    cases i with
    | zero => simp only [List.getElem?_cons_zero, Option.some.injEq] at hx ⊢; subst hx; exact ⟨v, rfl, h1⟩
    | succ i => simp only [List.getElem?_cons_succ] at hx ⊢; exact RVs_at h2 hx
theorem RVs_drop {ι : Nat → HI} {Fz : Nat → Prop} {w : World} : ∀ {cs : List AV} {vs : List Value} (n : Nat), RVs ι Fz w cs vs → RVs ι Fz w (cs.drop n) (vs.drop n)
  | cs, vs, 0, h => by simpa using h
  | [], vs, n + 1, h => by simp only [RVs] at h; subst h; simp [RVs]
  | c :: cs, vs, n + 1, h => by
    simp only [RVs] at h
    obtain ⟨v, r, e, _, h2⟩ := h
    subst e
    simpa using RVs_drop n h2
theorem RVs_take {ι : Nat → HI} {Fz : Nat → Prop} {w : World} : ∀ {cs : List AV} {vs : List Value} (n : Nat), RVs ι Fz w cs vs → RVs ι Fz w (cs.take n) (vs.take n)
  | cs, vs, 0, h => by simp [RVs]
  | [], vs, n + 1, h => by simp only [RVs] at h; subst h; simp [RVs]
  | c :: cs, vs, n + 1, h => by
    simp only [RVs] at h
    obtain ⟨v, r, e, h1, h2⟩ := h
    subst e
    simp only [List.take_succ_cons, RVs]
    exact ⟨v, _, rfl, h1, RVs_take n h2⟩
theorem RVs_append {ι : Nat → HI} {Fz : Nat → Prop} {w : World} : ∀ {cs ds : List AV} {vs us : List Value}, RVs ι Fz w cs vs → RVs ι Fz w ds us → RVs ι Fz w (cs ++ ds) (vs ++ us)
  | [], _, vs, _, h, h' => by simp only [RVs] at h; subst h; simpa using h'
  | c :: cs, _, vs, _, h, h' => by
    simp only [RVs] at h
    obtain ⟨v, r, e, h1, h2⟩ := h
    subst e
    simp only [List.cons_append, RVs]
    exact ⟨v, _, rfl, h1, RVs_append h2 h'⟩
theorem RVs_set {ι : Nat → HI} {Fz : Nat → Prop} {w : World} : ∀ {cs : List AV} {vs : List Value} (i : Nat) {c : AV} {v : Value}, RVs ι Fz w cs vs → RV ι Fz w c v → RVs ι Fz w (cs.set i c) (vs.set i v)
  | [], vs, _, _, _, h, _ => by simp only [RVs] at h; subst h; simp [RVs]
  | _ :: cs, vs, 0, c, v, h, hv => by
    simp only [RVs] at h
    obtain ⟨v', r, e, _, h2⟩ := h
    subst e
    simp only [List.set_cons_zero, RVs]
    exact ⟨v, r, rfl, hv, h2⟩
  | _ :: cs, vs, i + 1, c, v, h, hv => by
    simp only [RVs] at h
    obtain ⟨v', r, e, h1, h2⟩ := h
    subst e
    simp only [List.set_cons_succ, RVs]
    exact ⟨v', _, rfl, h1, RVs_set i h2 hv⟩

/-! ### the cells of an abstract value -/
theorem flatD_of {ι : Nat → HI} {Fz : Nat → Prop} {w : World} : ∀ (κ : Kd) (x : Den κ) (cs : List Value), RP Fz w κ x cs → RVs ι Fz w (flatD κ x) cs
  | .int _, _, _, h => by rw [h]; simp only [flatD, RVs, RV]; exact ⟨_, _, rfl, by simp [Kd.isAgg, RP], rfl⟩
  | .float, _, _, h => by rw [h]; simp only [flatD, RVs, RV]; exact ⟨_, _, rfl, by simp [Kd.isAgg, RP], rfl⟩
  | .bool, _, _, h => by rw [h]; simp only [flatD, RVs, RV]; exact ⟨_, _, rfl, by simp [Kd.isAgg, RP], rfl⟩
  | .str, _, _, h => by rw [h]; simp only [flatD, RVs, RV]; exact ⟨_, _, rfl, by simp [Kd.isAgg, RP], rfl⟩
  | .list e, xs, cs, h => by
    obtain ⟨v, hc, h'⟩ := h
    rw [hc]
    simp only [flatD, RVs, RV]
    exact ⟨v, [], rfl, by simp only [Kd.isAgg, Bool.false_eq_true, if_false]; exact ⟨v, rfl, h'⟩, rfl⟩
  | .unit, _, _, h => by rw [h]; simp [flatD, RVs]
  | .pair a b, x, cs, ⟨c1, c2, hc, h1, h2⟩ => by rw [hc]; exact RVs_append (flatD_of a _ _ h1) (flatD_of b _ _ h2)
  | .geo, g, cs, h => by
    cases g with
    | mk kd ly sr flat ends endss kids =>
    simp only [RP, RG] at h
    obtain ⟨v3, v4, v5, a, c, rfl, h3, h4, h5, hl, h6⟩ := h
    simp only [flatD, RVs, RV, Kd.isAgg, Bool.false_eq_true, if_false, RP, Geo.kind, Geo.layout, Geo.srid, Geo.flat, Geo.ends, Geo.endss, Geo.kids]
    refine ⟨_, _, rfl, rfl, _, _, rfl, rfl, _, _, rfl, rfl, _, _, rfl, ⟨_, rfl, h3⟩, _, _, rfl, ⟨_, rfl, h4⟩, _, _, rfl, ⟨_, rfl, h5⟩, _, _, rfl, ⟨_, rfl, ?_⟩, rfl⟩
    refine ⟨a, c, rfl, hl, ?_⟩
    rcases h6 with h6 | ⟨b, off, ha, hb, h6⟩
    · exact .inl h6
    · exact .inr ⟨b, off, ha, hb, fun i x hx => RGs_at kids b off i x h6 hx⟩
  | .any, c, cs, h => by
    obtain ⟨v, hc, h'⟩ := h
    rw [hc]
    simp only [flatD, RVs, RV]
    exact ⟨v, [], rfl, by simp only [Kd.isAgg, Bool.false_eq_true, if_false]; exact ⟨v, rfl, h'⟩, rfl⟩
  | .nl e, o, cs, h => by
    obtain ⟨v, hc, h'⟩ := h
    rw [hc]
    simp only [flatD, RVs, RV]
    exact ⟨v, [], rfl, by simp only [Kd.isAgg, Bool.false_eq_true, if_false]; exact ⟨v, rfl, h'⟩, rfl⟩

theorem flat_of {ι : Nat → HI} {Fz : Nat → Prop} {w : World} {a : AV} {v : Value} (h : RV ι Fz w a v) (hl : aliveL a.flat = true) :
    RVs ι Fz w a.flat v.cells.toList ∧ ∀ u ∈ v.cells.toList, u.oneCell' = true := by
  cases a with
  | pv κ x =>
    simp only [RV] at h
    cases hk : κ.isAgg with
    | true =>
      simp only [hk, if_true] at h
      obtain ⟨vs, rfl, h⟩ := h
      exact ⟨flatD_of κ x _ h, RP_one κ x _ h⟩
    | false =>
      simp only [hk, Bool.false_eq_true, if_false] at h
      have h1 := RP_one κ x _ h v (by simp)
      have hc : v.cells.toList = [v] := by cases v <;> simp_all [Value.cells, Value.oneCell']
      rw [hc]
      exact ⟨flatD_of κ x _ h, by simpa using h1⟩
  | nils => simp only [RV] at h; subst h; exact ⟨by simp [AV.flat, Value.cells, RVs, RV], by simp [Value.cells, Value.oneCell']⟩
  | agg cs => simp only [RV] at h; obtain ⟨vs, rfl, h1, h2⟩ := h; simpa [Value.cells, AV.flat] using ⟨h2, h1⟩
  | own κ g =>
    have h0 := h
    simp only [RV] at h
    rcases h with ⟨_, rfl⟩ | ⟨_, rfl⟩ <;> exact ⟨by simpa [AV.flat, Value.cells, RVs] using h0, by simp [Value.cells, Value.oneCell']⟩
  | sub κ g o l =>
    have h0 := h
    simp only [RV] at h
    obtain ⟨_, h⟩ := h
    rcases h with ⟨_, a, c, rfl, _⟩ | ⟨_, c, rfl, _⟩ <;> exact ⟨by simpa [AV.flat, Value.cells, RVs] using h0, by simp [Value.cells, Value.oneCell']⟩
  | ref g o => have h0 := h; simp only [RV] at h; obtain ⟨_, rfl⟩ := h; exact ⟨by simpa [AV.flat, Value.cells, RVs] using h0, by simp [Value.cells, Value.oneCell']⟩
  | eref κ x => have h0 := h; simp only [RV] at h; obtain ⟨_, _, _, rfl, _⟩ := h; exact ⟨by simpa [AV.flat, Value.cells, RVs] using h0, by simp [Value.cells, Value.oneCell']⟩
  | aref κ g o => have h0 := h; simp only [RV] at h; obtain ⟨_, _, rfl⟩ := h; exact ⟨by simpa [AV.flat, Value.cells, RVs] using h0, by simp [Value.cells, Value.oneCell']⟩
  | nilp => simp only [RV] at h; subst h; exact ⟨by simp [AV.flat, Value.cells, RVs, RV], by simp [Value.cells, Value.oneCell']⟩
  | gi _ _ => have h0 := h; simp only [RV] at h; obtain ⟨rfl, _⟩ := h; exact ⟨by simpa [AV.flat, Value.cells, RVs] using h0, by simp [Value.cells, Value.oneCell']⟩
  | mf _ _ => have h0 := h; simp only [RV] at h; obtain ⟨_, _, rfl⟩ := h; exact ⟨by simpa [AV.flat, Value.cells, RVs] using h0, by simp [Value.cells, Value.oneCell']⟩
  | ep _ => have h0 := h; simp only [RV] at h; obtain ⟨_, _, rfl, _⟩ := h; exact ⟨by simpa [AV.flat, Value.cells, RVs] using h0, by simp [Value.cells, Value.oneCell']⟩
  | niliface => simp only [RV] at h; subst h; exact ⟨by simp [AV.flat, Value.cells, RVs, RV], by simp [Value.cells, Value.oneCell']⟩
  | iface t x => have h0 := h; simp only [RV] at h; obtain ⟨_, rfl, _⟩ := h; exact ⟨by simpa [AV.flat, Value.cells, RVs] using h0, by simp [Value.cells, Value.oneCell']⟩
  | func f cs => have h0 := h; simp only [RV] at h; obtain ⟨_, rfl, _⟩ := h; exact ⟨by simpa [AV.flat, Value.cells, RVs] using h0, by simp [Value.cells, Value.oneCell']⟩
  | nanv => have h0 := h; simp only [RV] at h; obtain ⟨_, rfl, _⟩ := h; exact ⟨by simpa [AV.flat, Value.cells, RVs] using h0, by simp [Value.cells, Value.oneCell']⟩
  | nilf => simp only [RV] at h; subst h; exact ⟨by simp [AV.flat, Value.cells, RVs, RV], by simp [Value.cells, Value.oneCell']⟩
  | bsl g n => have h0 := h; simp only [RV] at h; obtain ⟨_, rfl⟩ := h; exact ⟨by simpa [AV.flat, Value.cells, RVs] using h0, by simp [Value.cells, Value.oneCell']⟩
  | capd κ xs => have h0 := h; simp only [RV] at h; obtain ⟨_, a, rfl⟩ := h; exact ⟨by simpa [AV.flat, Value.cells, RVs] using h0, by simp [Value.cells, Value.oneCell']⟩
  | tuple cs => simp [AV.flat, aliveL] at hl
  | dead => simp [AV.flat, aliveL] at hl

/-! ### abstract memory -/
def AB.isArr : AB → Prop
  | .arr _ _ _ => True
  | _ => False
def AB.live : AB → Prop
  | .gone => False
  | _ => True
def RB (ι : Nat → HI) (Fz : Nat → Prop) (w : World) (h : Nat) : AB → Prop
  | .gone => True
  | .box cs => (ι h).virt = false ∧ ∃ (vs : List Value) (T : TypeId), (∃ rest : List Value, w.heap[(ι h).blk]? = some (.cells (vs ++ rest).toArray T (0, 0))) ∧ RVs ι Fz w cs vs ∧ ∀ v ∈ vs, v.oneCell' = true
  | .arr e κ xs => (ι h).len = xs.length ∧ (((ι h).virt = true ∧ xs = []) ∨ ((ι h).virt = false ∧ ∃ vs : Array Value, w.heap[(ι h).blk]? = some (.cells vs e (0, 0)) ∧
      xs.length ≤ (ι h).cap ∧ (ι h).cap ≤ maxLen ∧ vs.size = (ι h).cap * κ.size ∧ ∀ i x, xs[i]? = some x → ∃ es, RP Fz w κ x es ∧ es.length = κ.size ∧ ∀ j u, es[j]? = some u → vs[i * κ.size + j]? = some u))
/-- Where a run begins: its world, the blocks that are its own (all that come anew among them), and the names that stay as they are. -/
structure Root where
  w : World
  own : Nat → Prop
  big : ∀ b, w.heap.size ≤ b → own b
  io : Nat → HI
  gl : List Gl
/-- Nothing but own blocks has turned. -/
structure Bel (own : Nat → Prop) (w w' : World) : Prop where
  os : w'.os = w.os
  tape : w'.tape = w.tape
  output : w'.output = w.output
  size : w.heap.size ≤ w'.heap.size
  block : ∀ k, ¬ own k → w'.heap[k]? = w.heap[k]?
theorem Bel.refl (own : Nat → Prop) (w : World) : Bel own w w := ⟨rfl, rfl, rfl, Nat.le_refl _, fun _ _ => rfl⟩
theorem Bel.trans {own : Nat → Prop} {a b c : World} (h : Bel own a b) (k : Bel own b c) : Bel own a c :=
  ⟨k.os.trans h.os, k.tape.trans h.tape, k.output.trans h.output, Nat.le_trans h.size k.size, fun i hi => (k.block i hi).trans (h.block i hi)⟩
theorem Bel.of {own : Nat → Prop} {B : Nat} {w w' : World} (h : Below B w w') (hB : ∀ b, B ≤ b → own b) : Bel own w w' :=
  ⟨h.os, h.tape, h.output, h.size, fun k hk => h.block k (by rcases Nat.lt_or_ge k B with h' | h'; exact h'; exact absurd (hB k h') hk)⟩
/-- A function's own root: all that comes anew, and the names from a million on. -/
def Root.at (w : World) (ι : Nat → HI) (gl : List Gl) : Root := ⟨w, fun b => w.heap.size ≤ b, fun _ h => h, ι, gl⟩
/-- The package variables hold what is told of them, and stay. -/
def GOK (gl : List Gl) (Fz : Nat → Prop) (w : World) : Prop := ∀ g ∈ gl, g.κ.plain = true ∧ Fz g.g ∧ (∃ es, RP (fun _ => False) w g.κ g.x es ∧ Lie w es g.g 0) ∧ ∀ t, g.ti = some t → ∃ a, Lie w [.iface t (.pointer (some a))] g.g 0
theorem GOK.mono {gl : List Gl} {Fz Fz' : Nat → Prop} {w w' : World} (h : GOK gl Fz w) (hw : ∀ b, Fz b → w'.heap[b]? = w.heap[b]?) (hf : ∀ b, Fz b → Fz' b) : GOK gl Fz' w' := by
  intro g hg
  obtain ⟨h1, h2, ⟨es, h3, h4⟩, h5⟩ := h g hg
  exact ⟨h1, hf _ h2, ⟨es, RP_plain g.κ g.x es h1 h3, h4.mono (hw _ h2)⟩, fun t ht => (h5 t ht).imp fun a ha => ha.mono (hw _ h2)⟩
theorem getG_of {gl : List Gl} {Fz : Nat → Prop} {w : World} {ι : Nat → HI} : ∀ (l : List Gl), (∀ g ∈ l, g ∈ gl) → GOK gl Fz w → ∀ n, RV ι Fz w (getG l n) (.pointer (some ⟨n, 0, none⟩))
  | [], _, _, n => by simp [getG, RV]
  | a :: r, hl, h, n => by
    simp only [getG]
    cases hb : Nat.beq a.g n with
    | false => exact getG_of r (fun g hg => hl g (by simp [hg])) h n
    | true =>
      obtain ⟨h1, h2, ⟨es, h3, h4⟩, h5⟩ := h a (hl a (by simp))
      have e := Nat.eq_of_beq_eq_true hb
      subst e
      rw [cond_true]
      cases ht : a.ti with
      | none =>
        simp only [RV]
        exact ⟨a.g, 0, es, rfl, h2, RP_plain a.κ a.x es h1 h3, h4⟩
      | some t =>
        simp only [RV]
        exact ⟨trivial, h2, h5 t ht⟩
theorem Bel.below {w w' : World} (h : Bel (fun b => w.heap.size ≤ b) w w') : Below w.heap.size w w' :=
  ⟨h.os, h.tape, h.output, h.size, fun k hk => h.block k (by omega)⟩
/-- What a handle's information is where it tells nothing. -/
def Cn (i : HI) : AB → Prop
  | .gone => True
  | .box _ => i.len = 0 ∧ i.cap = 0
  | .arr _ _ _ => i.virt = true → i.blk = 0 ∧ i.cap = 0
structure Mem (w0 : Root) (Fz0 : Nat → Prop) (ι : Nat → HI) (Fz : Nat → Prop) (H : List (Nat × AB)) (w : World) : Prop where
  below : Bel w0.own w0.w w
  fz : ∀ b, Fz b → b < w.heap.size
  fz0 : ∀ b, Fz0 b → Fz b
  fzn : ∀ b, Fz b → Fz0 b ∨ w0.own b
  rb : ∀ h, RB ι Fz w h (getH H h)
  sep : ∀ h, (getH H h).live → (ι h).virt = false → w0.own (ι h).blk ∧ (ι h).blk < w.heap.size ∧ ¬ Fz (ι h).blk
  inj : ∀ h h', (getH H h).live → (getH H h').live → (ι h).virt = false → (ι h').virt = false → (ι h).blk = (ι h').blk → h = h'
  iot : ∀ h, 1000000 ≤ h → ι h = w0.io h
  cn : ∀ h, Cn (ι h) (getH H h)
  gz : GOK w0.gl Fz0 w0.w ∧ ∀ b, Fz0 b → ¬ w0.own b
theorem Mem.gok {w0 : Root} {Fz0 : Nat → Prop} {ι : Nat → HI} {Fz : Nat → Prop} {H : List (Nat × AB)} {w : World} (m : Mem w0 Fz0 ι Fz H w) : GOK w0.gl Fz w :=
  m.gz.1.mono (fun b hb => m.below.block b (m.gz.2 b hb)) m.fz0
def RD (ι : Nat → HI) (Fz : Nat → Prop) (w : World) : List AV → List Deferred → Prop
  | [], ds => ds = []
  | v :: r, ds => ∃ f caps vs s, v = .func f caps ∧ ds = { target := .fn (.func f) vs, args := #[] } :: s ∧ RVs ι Fz w caps vs.toList ∧ RD ι Fz w r s
  -- (what is struck can't be called)
structure Sim (w0 : Root) (Fz0 : Nat → Prop) (nt : Nat) (ι : Nat → HI) (Fz : Nat → Prop) (st : St) (a : Act) (w : World) : Prop where
  size : a.tmps.size = nt
  fr : ∀ t, RV ι Fz w (getF st.fr t) (a.tmps.getD t undef)
  df : RD ι Fz w st.df a.defers
  mem : Mem w0 Fz0 ι Fz st.H w
mutual
theorem free_ment : ∀ (a : AV), a.free = true → ∀ h, a.ment h = false
  | .pv _ _, _, _ => rfl
  | .nils, _, _ => rfl
  | .agg cs, hf, h => by simp only [AV.ment]; exact freeL_ment cs (by simpa [AV.free] using hf) h
  | .own _ _, hf, _ => by simp [AV.free] at hf
  | .sub _ _ _ _, hf, _ => by simp [AV.free] at hf
  | .ref _ _, hf, _ => by simp [AV.free] at hf
  | .eref _ _, hf, _ => by simp [AV.free] at hf
  | .aref _ _ _, hf, _ => by simp [AV.free] at hf
  | .nilp, hf, _ => by simp [AV.free] at hf
  | .gi _ _, hf, _ => by simp [AV.free] at hf
  | .ep _, hf, _ => by simp [AV.free] at hf
  | .mf _ _, hf, _ => by simp [AV.free] at hf
  | .niliface, hf, _ => by simp [AV.free] at hf
  | .iface _ _, hf, _ => by simp [AV.free] at hf
  | .func _ _, hf, _ => by simp [AV.free] at hf
  | .nilf, hf, _ => by simp [AV.free] at hf
  | .nanv, hf, _ => by simp [AV.free] at hf
  | .bsl _ _, hf, _ => by simp [AV.free] at hf
  | .capd _ _, hf, _ => by simp [AV.free] at hf
  | .tuple _, hf, _ => by simp [AV.free] at hf
  | .dead, hf, _ => by simp [AV.free] at hf
theorem freeL_ment : ∀ (l : List AV), freeL l = true → ∀ h, mentL h l = false
  | [], _, _ => rfl
  | v :: r, hf, h => by
    simp only [freeL, Bool.and_eq_true] at hf
    simp only [mentL, free_ment v hf.1 h, freeL_ment r hf.2 h, Bool.or_self]
end
end Go.Av
