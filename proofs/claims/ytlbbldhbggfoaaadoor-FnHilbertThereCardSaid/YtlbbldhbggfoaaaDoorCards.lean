/-
  DERIVED. GIVEN WITH THE SEED: THE CARDS: each row of YtlbbldhbggfoaaaDoorRows.lean that lists a variable, with what it lists TIED to the program's text (the seventh form; the later family's looks); each row that meets fmt, with fmt's text TOLD by the authors' own Lean function (tested against real Go, not proved from fmt's source: count such statements apart). THE CARD IS WHAT COUNTS. Prove the row's statement (the work); the ties are given (YtlbbldhbggfoaaaDoorTie.lean); close each card by the builder's one call (the guide's Derived/Test/ToyasCard.lean, 'card_holds'). Laid BY PROGRAM, IN A SANDBOX (cutbox-door.mjs). By AI agents, Wed Nov 11 2026. No macro, syntax, notation, axiom, sorry.
-/
import Derived.Test.YtlbbldhbggfoaaaDoorRows
import GoSem.ClaimSeven
namespace Go.Proofs.YtlbbldhbggfoaaaDoor
namespace Rows

/-- THE TIED CARD OF 'laws.FnTiles2'. -/
def fnTiles2Card : Claim7 := { stood := { row := fnTiles2Row, standIns := [], harness := (true, "9e3a29f7bca4d80d24e7bc0550fb90218551d236b5793254b0cc08856a6b99ad"), looks := true }, kinds := [], alts := [], laidByText := true, laidKinds := [.sentinel], laidTests := true, laidLooks := .later }
def FnTiles2CardSaid : Prop := Claim7.holds Tryd.pinned (.plain (OpenSpec.ofChange fnTiles2Spec)) fnTiles2Card

/-- THE TIED CARD OF 'laws.FnHilbertCopies'. -/
def fnHilbertCopiesCard : Claim7 := { stood := { row := fnHilbertCopiesRow, standIns := [], harness := (true, "9e3a29f7bca4d80d24e7bc0550fb90218551d236b5793254b0cc08856a6b99ad"), looks := true }, kinds := [], alts := [], laidByText := true, laidKinds := [.sentinel, .sentinel], laidTests := true, laidLooks := .later }
def FnHilbertCopiesCardSaid : Prop := Claim7.holds Tryd.pinned (.plain (OpenSpec.ofChange fnHilbertCopiesSpec)) fnHilbertCopiesCard

/-- THE TIED CARD OF 'laws.FnHilbertThere'. -/
def fnHilbertThereCard : Claim7 := { stood := { row := fnHilbertThereRow, standIns := [], harness := (true, "9e3a29f7bca4d80d24e7bc0550fb90218551d236b5793254b0cc08856a6b99ad"), looks := true }, kinds := [], alts := [], laidByText := true, laidKinds := [.sentinel, .sentinel], laidTests := true, laidLooks := .later }
def FnHilbertThereCardSaid : Prop := Claim7.holds Tryd.pinned (.plain (OpenSpec.ofChange fnHilbertThereSpec)) fnHilbertThereCard

/-- THE SECOND FORM's CARD OF 'laws.FnTiles2'. -/
def fnTiles2UptoCard : Claim7 := { stood := { row := fnTiles2UptoRow, standIns := [], harness := (true, "9e3a29f7bca4d80d24e7bc0550fb90218551d236b5793254b0cc08856a6b99ad"), looks := true }, kinds := [], alts := [], laidByText := true, laidKinds := [.sentinel], laidTests := true, laidLooks := .later }
def FnTiles2UptoCardSaid : Prop := Claim7.holds Tryd.pinned (.plain (OpenSpec.upto fnTiles2Spec)) fnTiles2UptoCard

/-- THE SECOND FORM's CARD OF 'laws.FnHilbertCopies'. -/
def fnHilbertCopiesUptoCard : Claim7 := { stood := { row := fnHilbertCopiesUptoRow, standIns := [], harness := (true, "9e3a29f7bca4d80d24e7bc0550fb90218551d236b5793254b0cc08856a6b99ad"), looks := true }, kinds := [], alts := [], laidByText := true, laidKinds := [.sentinel, .sentinel], laidTests := true, laidLooks := .later }
def FnHilbertCopiesUptoCardSaid : Prop := Claim7.holds Tryd.pinned (.plain (OpenSpec.upto fnHilbertCopiesSpec)) fnHilbertCopiesUptoCard

/-- THE SECOND FORM's CARD OF 'laws.FnHilbertThere'. -/
def fnHilbertThereUptoCard : Claim7 := { stood := { row := fnHilbertThereUptoRow, standIns := [], harness := (true, "9e3a29f7bca4d80d24e7bc0550fb90218551d236b5793254b0cc08856a6b99ad"), looks := true }, kinds := [], alts := [], laidByText := true, laidKinds := [.sentinel, .sentinel], laidTests := true, laidLooks := .later }
def FnHilbertThereUptoCardSaid : Prop := Claim7.holds Tryd.pinned (.plain (OpenSpec.upto fnHilbertThereSpec)) fnHilbertThereUptoCard
end Rows
end Go.Proofs.YtlbbldhbggfoaaaDoor
