/- Loops over lists, for plain laws. -/
import Derived.Test.YtnoamanjajighaaPv1
set_option linter.unusedVariables false
set_option linter.unusedSectionVars false
namespace Go.Av
open Go
section
variable {α σ R : Type} {xs : List α}
/-- A loop that goes over a whole list. -/
theorem foldLoop {L : Nat → Int → σ → Option R} {f : σ → α → σ} {fin : σ → Option R} (P : Nat → σ → Prop)
    (hend : ∀ n st, P xs.length st → L (n + 1) (xs.length : Int) st = fin st)
    (hstep : ∀ n i st (h : i < xs.length), P i st → L (n + 1) (i : Int) st = L n ((i + 1 : Nat) : Int) (f st xs[i]) ∧ P (i + 1) (f st xs[i])) :
    ∀ (c i n : Nat) (st : σ), i + c = xs.length → c + 1 ≤ n → P i st → L n (i : Int) st = fin ((xs.drop i).foldl f st) ∧ P xs.length ((xs.drop i).foldl f st)
  | 0, i, n, st, hi, hn, hp => by
    obtain ⟨n, rfl⟩ : ∃ m, n = m + 1 := ⟨n - 1, by omega⟩
    have e : i = xs.length := by omega
    subst e
    rw [List.drop_length]
    exact ⟨hend n st hp, hp⟩
  | c + 1, i, n, st, hi, hn, hp => by
    obtain ⟨n, rfl⟩ : ∃ m, n = m + 1 := ⟨n - 1, by omega⟩
    have hlt : i < xs.length := by omega
    obtain ⟨h1, h2⟩ := hstep n i st hlt hp
    rw [h1, List.drop_eq_getElem_cons hlt, List.foldl_cons]
    exact foldLoop P hend hstep c (i + 1) n _ (by omega) (by omega) h2
theorem foldLoop0 {L : Nat → Int → σ → Option R} {f : σ → α → σ} {fin : σ → Option R} (P : Nat → σ → Prop)
    (hend : ∀ n st, P xs.length st → L (n + 1) (xs.length : Int) st = fin st)
    (hstep : ∀ n i st (h : i < xs.length), P i st → L (n + 1) (i : Int) st = L n ((i + 1 : Nat) : Int) (f st xs[i]) ∧ P (i + 1) (f st xs[i]))
    (n : Nat) (st : σ) (hn : xs.length + 1 ≤ n) (hp : P 0 st) : L n 0 st = fin (xs.foldl f st) ∧ P xs.length (xs.foldl f st) := by
  have := foldLoop P hend hstep xs.length 0 n st (by omega) hn hp
  simpa using this
/-- A loop that goes over a list and may stop, with what e tells. -/
theorem checkLoop {L : Nat → Int → Option R} {e : Option R → Prop} {fin : Option R} (Q : α → Prop)
    (hend : ∀ n, L (n + 1) (xs.length : Int) = fin)
    (hstep : ∀ n i (h : i < xs.length), e (L (n + 1) (i : Int)) ∨ (L (n + 1) (i : Int) = L n ((i + 1 : Nat) : Int) ∧ Q xs[i])) :
    ∀ (c i n : Nat), i + c = xs.length → c + 1 ≤ n → e (L n (i : Int)) ∨ (L n (i : Int) = fin ∧ ∀ x ∈ xs.drop i, Q x)
  | 0, i, n, hi, hn => by
    obtain ⟨n, rfl⟩ : ∃ m, n = m + 1 := ⟨n - 1, by omega⟩
    have h : i = xs.length := by omega
    subst h
    rw [List.drop_length]
    exact .inr ⟨hend n, fun x hx => by simp at hx⟩
  | c + 1, i, n, hi, hn => by
    obtain ⟨n, rfl⟩ : ∃ m, n = m + 1 := ⟨n - 1, by omega⟩
    have hlt : i < xs.length := by omega
    rcases hstep n i hlt with h | ⟨h1, h2⟩
    · exact .inl h
    · rw [h1, List.drop_eq_getElem_cons hlt]
      rcases checkLoop Q hend hstep c (i + 1) n (by omega) (by omega) with h | ⟨h3, h4⟩
      · exact .inl h
      · exact .inr ⟨h3, fun x hx => by
          rcases List.mem_cons.1 hx with rfl | hx
          · exact h2
          · exact h4 x hx⟩
theorem checkLoop0 {L : Nat → Int → Option R} {e : Option R → Prop} {fin : Option R} (Q : α → Prop)
    (hend : ∀ n, L (n + 1) (xs.length : Int) = fin)
    (hstep : ∀ n i (h : i < xs.length), e (L (n + 1) (i : Int)) ∨ (L (n + 1) (i : Int) = L n ((i + 1 : Nat) : Int) ∧ Q xs[i]))
    (n : Nat) (hn : xs.length + 1 ≤ n) : e (L n 0) ∨ (L n 0 = fin ∧ ∀ x ∈ xs, Q x) := by
  have := checkLoop Q hend hstep xs.length 0 n (by omega) hn
  simpa using this
/-- A loop that carries a state, may stop, and keeps what is true of the part gone over. -/
theorem stateLoop {L : Nat → Int → σ → Option R} {e : Option R → Prop} {fin : σ → Option R} (P : Nat → σ → Prop)
    (hend : ∀ n st, P xs.length st → L (n + 1) (xs.length : Int) st = fin st)
    (hstep : ∀ n i st (h : i < xs.length), P i st → e (L (n + 1) (i : Int) st) ∨ ∃ st', L (n + 1) (i : Int) st = L n ((i + 1 : Nat) : Int) st' ∧ P (i + 1) st') :
    ∀ (c i n : Nat) (st : σ), i + c = xs.length → c + 1 ≤ n → P i st → e (L n (i : Int) st) ∨ ∃ st', L n (i : Int) st = fin st' ∧ P xs.length st'
  | 0, i, n, st, hi, hn, hp => by
    obtain ⟨n, rfl⟩ : ∃ m, n = m + 1 := ⟨n - 1, by omega⟩
    have h : i = xs.length := by omega
    subst h
    exact .inr ⟨st, hend n st hp, hp⟩
  | c + 1, i, n, st, hi, hn, hp => by
    obtain ⟨n, rfl⟩ : ∃ m, n = m + 1 := ⟨n - 1, by omega⟩
    have hlt : i < xs.length := by omega
    rcases hstep n i st hlt hp with h | ⟨st', h1, h2⟩
    · exact .inl h
    · rw [h1]
      exact stateLoop P hend hstep c (i + 1) n st' (by omega) (by omega) h2
theorem stateLoop0 {L : Nat → Int → σ → Option R} {e : Option R → Prop} {fin : σ → Option R} (P : Nat → σ → Prop)
    (hend : ∀ n st, P xs.length st → L (n + 1) (xs.length : Int) st = fin st)
    (hstep : ∀ n i st (h : i < xs.length), P i st → e (L (n + 1) (i : Int) st) ∨ ∃ st', L (n + 1) (i : Int) st = L n ((i + 1 : Nat) : Int) st' ∧ P (i + 1) st')
    (n : Nat) (st : σ) (hn : xs.length + 1 ≤ n) (hp : P 0 st) : e (L n 0 st) ∨ ∃ st', L n 0 st = fin st' ∧ P xs.length st' := by
  have := stateLoop P hend hstep xs.length 0 n st (by omega) hn hp
  simpa using this
end
theorem nth_get {α : Type} {xs : List α} {i : Nat} (h : i < xs.length) : nth xs (i : Int) = some xs[i] := by rw [nth_nat, List.getElem?_eq_getElem h]
theorem succ_in {i n : Nat} (h : i < n) (hn : n ≤ 9223372036854775807) : IntKind.i64.wrap ((i : Int) + 1) = ((i + 1 : Nat) : Int) := by rw [wrap_in (by omega)]; omega
end Go.Av
