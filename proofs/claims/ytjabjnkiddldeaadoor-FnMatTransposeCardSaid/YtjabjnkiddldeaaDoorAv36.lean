/- A world in which texts lie in package variables (structs of one text). -/
import Derived.Test.YtjabjnkiddldeaaDoorAv33
set_option linter.unusedVariables false
namespace Go.Av
open Go
noncomputable def putLaidS : List (Nat × ByteArray) → Array Obj → Array Obj
  | [], h => h
  | (g, b) :: r, h => putLaidS r (h.modify g fun
      | .cells _ t frozen => .cells #[.string b] t frozen
      | o => o)
noncomputable def laidS (P : Program) (os : Os) (l : List (Nat × ByteArray)) : World :=
  let w0 := World.holding P os ⟨#[], #[], []⟩
  { w0 with heap := putLaidS l w0.heap }
end Go.Av
