/-
  DERIVED. GIVEN WITH THE SEED: THE CARDS: each row of YtjghcbmalcopoaaDoorRows.lean that lists a variable, with what it lists TIED to the program's text (the seventh form; the later family's looks); each row that meets fmt, with fmt's text TOLD by the authors' own Lean function (tested against real Go, not proved from fmt's source: count such statements apart). THE CARD IS WHAT COUNTS. Prove the row's statement (the work); the ties are given (YtjghcbmalcopoaaDoorTie.lean); close each card by the builder's one call (the guide's Derived/Test/ToyasCard.lean, 'card_holds'). Laid BY PROGRAM, IN A SANDBOX (cutbox-door.mjs). By AI agents, Wed Nov 11 2026. No macro, syntax, notation, axiom, sorry.
-/
import Derived.Test.YtjghcbmalcopoaaDoorRows
import GoSem.ClaimSeven
namespace Go.Proofs.YtjghcbmalcopoaaDoor
namespace Rows

/-- THE TIED CARD OF 'laws.FnOrientationTurned'. -/
def fnOrientationTurnedCard : Claim7 := { stood := { row := fnOrientationTurnedRow, standIns := [], harness := (true, "466bde0bd65e1693629b06490493486732768eeaae07f4b53d91eb8797ff3866"), looks := false }, kinds := [], alts := [], laidByText := true, laidKinds := [.data], laidTests := true, laidLooks := .later }
def FnOrientationTurnedCardSaid : Prop := Claim7.holds Tryd.pinned (.plain (OpenSpec.ofChange fnOrientationTurnedSpec)) fnOrientationTurnedCard

/-- THE TIED CARD OF 'laws.FnRotateTwice2'. -/
def fnRotateTwice2Card : Claim7 := { stood := { row := fnRotateTwice2Row, standIns := [], harness := (true, "466bde0bd65e1693629b06490493486732768eeaae07f4b53d91eb8797ff3866"), looks := false }, kinds := [], alts := [], laidByText := true, laidKinds := [.data, .data, .data], laidTests := true, laidLooks := .later }
def FnRotateTwice2CardSaid : Prop := Claim7.holds Tryd.pinned (.plain (OpenSpec.ofChange fnRotateTwice2Spec)) fnRotateTwice2Card

/-- THE SECOND FORM's CARD OF 'laws.FnOrientationTurned'. -/
def fnOrientationTurnedUptoCard : Claim7 := { stood := { row := fnOrientationTurnedUptoRow, standIns := [], harness := (true, "466bde0bd65e1693629b06490493486732768eeaae07f4b53d91eb8797ff3866"), looks := false }, kinds := [], alts := [], laidByText := true, laidKinds := [.data], laidTests := true, laidLooks := .later }
def FnOrientationTurnedUptoCardSaid : Prop := Claim7.holds Tryd.pinned (.plain (OpenSpec.upto fnOrientationTurnedSpec)) fnOrientationTurnedUptoCard

/-- THE SECOND FORM's CARD OF 'laws.FnRotateTwice2'. -/
def fnRotateTwice2UptoCard : Claim7 := { stood := { row := fnRotateTwice2UptoRow, standIns := [], harness := (true, "466bde0bd65e1693629b06490493486732768eeaae07f4b53d91eb8797ff3866"), looks := false }, kinds := [], alts := [], laidByText := true, laidKinds := [.data, .data, .data], laidTests := true, laidLooks := .later }
def FnRotateTwice2UptoCardSaid : Prop := Claim7.holds Tryd.pinned (.plain (OpenSpec.upto fnRotateTwice2Spec)) fnRotateTwice2UptoCard
end Rows
end Go.Proofs.YtjghcbmalcopoaaDoor
