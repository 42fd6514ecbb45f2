/-
  DERIVED. GIVEN WITH THE SEED: THE CARDS: each row of YtllnonlmibanfaaGreatDoorRows.lean that lists a variable, with what it lists TIED to the program's text (the seventh form; the later family's looks); each row that meets fmt, with fmt's text TOLD by the authors' own Lean function (tested against real Go, not proved from fmt's source: count such statements apart). THE CARD IS WHAT COUNTS. Prove the row's statement (the work); the ties are given (YtllnonlmibanfaaGreatDoorTie.lean); close each card by the builder's one call (the guide's Derived/Test/ToyasCard.lean, 'card_holds'). Laid BY PROGRAM, IN A SANDBOX (cutbox-door.mjs). By AI agents, Wed Nov 11 2026. No macro, syntax, notation, axiom, sorry.
-/
import Derived.Test.YtllnonlmibanfaaGreatDoorRows
import GoSem.ClaimSeven
namespace Go.Proofs.YtllnonlmibanfaaGreatDoor
namespace Rows

/-- THE TIED CARD OF 'laws.FnEWKBBack'. -/
def fnEWKBBackCard : Claim7 := { stood := { row := fnEWKBBackRow, standIns := [], harness := (true, "2e274d5086760c71f004bc4429c3e45c249156495e9ee94b33c583f5864d9c8b"), looks := true }, kinds := [], alts := [], laidByText := true, laidKinds := [.sentinel, .sentinel, .sentinel, .data], laidTests := true, laidLooks := .later }
def FnEWKBBackCardSaid : Prop := Claim7.holds Tryz.pinned (.plain (OpenSpec.ofChange fnEWKBBackSpec)) fnEWKBBackCard

/-- THE TIED CARD OF 'laws.FnWKBCut'. -/
def fnWKBCutCard : Claim7 := { stood := { row := fnWKBCutRow, standIns := [], harness := (true, "2e274d5086760c71f004bc4429c3e45c249156495e9ee94b33c583f5864d9c8b"), looks := true }, kinds := [], alts := [], laidByText := true, laidKinds := [.sentinel, .sentinel, .sentinel, .data], laidTests := true, laidLooks := .later }
def FnWKBCutCardSaid : Prop := Claim7.holds Tryz.pinned (.plain (OpenSpec.ofChange fnWKBCutSpec)) fnWKBCutCard

/-- THE SECOND FORM's CARD OF 'laws.FnEWKBBack'. -/
def fnEWKBBackUptoCard : Claim7 := { stood := { row := fnEWKBBackUptoRow, standIns := [], harness := (true, "2e274d5086760c71f004bc4429c3e45c249156495e9ee94b33c583f5864d9c8b"), looks := true }, kinds := [], alts := [], laidByText := true, laidKinds := [.sentinel, .sentinel, .sentinel, .data], laidTests := true, laidLooks := .later }
def FnEWKBBackUptoCardSaid : Prop := Claim7.holds Tryz.pinned (.plain (OpenSpec.upto fnEWKBBackSpec)) fnEWKBBackUptoCard

/-- THE SECOND FORM's CARD OF 'laws.FnWKBCut'. -/
def fnWKBCutUptoCard : Claim7 := { stood := { row := fnWKBCutUptoRow, standIns := [], harness := (true, "2e274d5086760c71f004bc4429c3e45c249156495e9ee94b33c583f5864d9c8b"), looks := true }, kinds := [], alts := [], laidByText := true, laidKinds := [.sentinel, .sentinel, .sentinel, .data], laidTests := true, laidLooks := .later }
def FnWKBCutUptoCardSaid : Prop := Claim7.holds Tryz.pinned (.plain (OpenSpec.upto fnWKBCutSpec)) fnWKBCutUptoCard
end Rows
end Go.Proofs.YtllnonlmibanfaaGreatDoor
