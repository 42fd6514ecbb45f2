/- Words that printed texts use. -/
import Derived.Test.YtnoamanjajighaaAv14
namespace Go.Av
open Go
/-- A piece of a function's code. -/
def codeAt : Code → List Nat → Code
  | c, [] => c
  | .seq a _, 0 :: r => codeAt a r
  | .seq _ b, _ :: r => codeAt b r
  | .cond _ a _, 0 :: r => codeAt a r
  | .cond _ _ b, _ :: r => codeAt b r
  | .block _ c, _ :: r => codeAt c r
  | .loop c, _ :: r => codeAt c r
  | c, _ => c
def bodyOf (f : Func) : Code := match f.body with | some c => c | none => .skip
def kdL : List (Nat × Kd) → TypeId → Option Kd
  | [], _ => none
  | (t, κ) :: r, u => bif Nat.beq t u then some κ else kdL r u
theorem allNil {α : Type} {p : α → Prop} : ∀ c ∈ ([] : List α), p c := fun c h => by cases h
theorem allCons {α : Type} {p : α → Prop} {a : α} {l : List α} (h : p a) (hl : ∀ c ∈ l, p c) : ∀ c ∈ a :: l, p c := fun c hc => by
  rcases List.mem_cons.1 hc with rfl | hc
  · exact h
  · exact hl c hc
end Go.Av
