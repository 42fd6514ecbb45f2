/-
  DERIVED. GIVEN WITH THE SEED: THE CARDS: each row of YtjabjnkiddldeaaDoorRows.lean that lists a variable, with what it lists TIED to the program's text (the seventh form; the later family's looks); each row that meets fmt, with fmt's text TOLD by the authors' own Lean function (tested against real Go, not proved from fmt's source: count such statements apart). THE CARD IS WHAT COUNTS. Prove the row's statement (the work); the ties are given (YtjabjnkiddldeaaDoorTie.lean); close each card by the builder's one call (the guide's Derived/Test/ToyasCard.lean, 'card_holds'). Laid BY PROGRAM, IN A SANDBOX (cutbox-door.mjs). By AI agents, Wed Nov 11 2026. No macro, syntax, notation, axiom, sorry.
-/
import Derived.Test.YtjabjnkiddldeaaDoorRows
import GoSem.ClaimSeven
namespace Go.Proofs.YtjabjnkiddldeaaDoor
namespace Rows

/-- THE TIED CARD OF 'laws.FnMatDetMul'. -/
def fnMatDetMulCard : Claim7 := { stood := { row := fnMatDetMulRow, standIns := [], harness := (true, "b6d932fed163939354da38657b07b26a9d52371b88b21c485f1d41216d3478ac"), looks := true }, kinds := [], alts := [], laidByText := true, laidKinds := [.data, .data, .data], laidTests := true, laidLooks := .later }
def FnMatDetMulCardSaid : Prop := Claim7.holds Tryd.pinned (.plain (OpenSpec.ofChange fnMatDetMulSpec)) fnMatDetMulCard

/-- THE TIED CARD OF 'laws.FnMatTranspose'. -/
def fnMatTransposeCard : Claim7 := { stood := { row := fnMatTransposeRow, standIns := [], harness := (true, "b6d932fed163939354da38657b07b26a9d52371b88b21c485f1d41216d3478ac"), looks := true }, kinds := [], alts := [], laidByText := true, laidKinds := [.data, .data, .data], laidTests := true, laidLooks := .later }
def FnMatTransposeCardSaid : Prop := Claim7.holds Tryd.pinned (.plain (OpenSpec.ofChange fnMatTransposeSpec)) fnMatTransposeCard

/-- THE TIED CARD OF 'laws.FnReadFloats'. -/
def fnReadFloatsCard : Claim7 := { stood := { row := fnReadFloatsRow, standIns := [], harness := (true, "b6d932fed163939354da38657b07b26a9d52371b88b21c485f1d41216d3478ac"), looks := true }, kinds := [], alts := [], laidByText := true, laidKinds := [.sentinel, .sentinel, .sentinel], laidTests := true, laidLooks := .later }
def FnReadFloatsCardSaid : Prop := Claim7.holds Tryd.pinned (.plain (OpenSpec.ofChange fnReadFloatsSpec)) fnReadFloatsCard

/-- THE TIED CARD OF 'laws.FnWriteFloats'. -/
def fnWriteFloatsCard : Claim7 := { stood := { row := fnWriteFloatsRow, standIns := [], harness := (true, "b6d932fed163939354da38657b07b26a9d52371b88b21c485f1d41216d3478ac"), looks := true }, kinds := [], alts := [], laidByText := true, laidKinds := [.sentinel, .sentinel, .sentinel], laidTests := true, laidLooks := .later }
def FnWriteFloatsCardSaid : Prop := Claim7.holds Tryd.pinned (.plain (OpenSpec.ofChange fnWriteFloatsSpec)) fnWriteFloatsCard

/-- THE TIED CARD OF 'laws.FnHilbertCopies'. -/
def fnHilbertCopiesCard : Claim7 := { stood := { row := fnHilbertCopiesRow, standIns := [], harness := (true, "b6d932fed163939354da38657b07b26a9d52371b88b21c485f1d41216d3478ac"), looks := true }, kinds := [], alts := [], laidByText := true, laidKinds := [.sentinel, .sentinel], laidTests := true, laidLooks := .later }
def FnHilbertCopiesCardSaid : Prop := Claim7.holds Tryd.pinned (.plain (OpenSpec.ofChange fnHilbertCopiesSpec)) fnHilbertCopiesCard

/-- THE TIED CARD OF 'laws.FnVerify'. -/
def fnVerifyCard : Claim7 := { stood := { row := fnVerifyRow, standIns := [], harness := (true, "b6d932fed163939354da38657b07b26a9d52371b88b21c485f1d41216d3478ac"), looks := true }, kinds := [], alts := [], laidByText := true, laidKinds := [.sentinel, .sentinel, .sentinel, .sentinel, .sentinel, .sentinel, .sentinel, .sentinel], laidTests := true, laidLooks := .later }
def FnVerifyCardSaid : Prop := Claim7.holds Tryd.pinned (.plain (OpenSpec.ofChange fnVerifySpec)) fnVerifyCard

/-- THE TIED CARD OF 'laws.FnTiles2'. -/
def fnTiles2Card : Claim7 := { stood := { row := fnTiles2Row, standIns := [], harness := (true, "b6d932fed163939354da38657b07b26a9d52371b88b21c485f1d41216d3478ac"), looks := true }, kinds := [], alts := [], laidByText := true, laidKinds := [.sentinel], laidTests := true, laidLooks := .later }
def FnTiles2CardSaid : Prop := Claim7.holds Tryd.pinned (.plain (OpenSpec.ofChange fnTiles2Spec)) fnTiles2Card

/-- THE SECOND FORM's CARD OF 'laws.FnMatDetMul'. -/
def fnMatDetMulUptoCard : Claim7 := { stood := { row := fnMatDetMulUptoRow, standIns := [], harness := (true, "b6d932fed163939354da38657b07b26a9d52371b88b21c485f1d41216d3478ac"), looks := true }, kinds := [], alts := [], laidByText := true, laidKinds := [.data, .data, .data], laidTests := true, laidLooks := .later }
def FnMatDetMulUptoCardSaid : Prop := Claim7.holds Tryd.pinned (.plain (OpenSpec.upto fnMatDetMulSpec)) fnMatDetMulUptoCard

/-- THE SECOND FORM's CARD OF 'laws.FnMatTranspose'. -/
def fnMatTransposeUptoCard : Claim7 := { stood := { row := fnMatTransposeUptoRow, standIns := [], harness := (true, "b6d932fed163939354da38657b07b26a9d52371b88b21c485f1d41216d3478ac"), looks := true }, kinds := [], alts := [], laidByText := true, laidKinds := [.data, .data, .data], laidTests := true, laidLooks := .later }
def FnMatTransposeUptoCardSaid : Prop := Claim7.holds Tryd.pinned (.plain (OpenSpec.upto fnMatTransposeSpec)) fnMatTransposeUptoCard

/-- THE SECOND FORM's CARD OF 'laws.FnReadFloats'. -/
def fnReadFloatsUptoCard : Claim7 := { stood := { row := fnReadFloatsUptoRow, standIns := [], harness := (true, "b6d932fed163939354da38657b07b26a9d52371b88b21c485f1d41216d3478ac"), looks := true }, kinds := [], alts := [], laidByText := true, laidKinds := [.sentinel, .sentinel, .sentinel], laidTests := true, laidLooks := .later }
def FnReadFloatsUptoCardSaid : Prop := Claim7.holds Tryd.pinned (.plain (OpenSpec.upto fnReadFloatsSpec)) fnReadFloatsUptoCard

/-- THE SECOND FORM's CARD OF 'laws.FnWriteFloats'. -/
def fnWriteFloatsUptoCard : Claim7 := { stood := { row := fnWriteFloatsUptoRow, standIns := [], harness := (true, "b6d932fed163939354da38657b07b26a9d52371b88b21c485f1d41216d3478ac"), looks := true }, kinds := [], alts := [], laidByText := true, laidKinds := [.sentinel, .sentinel, .sentinel], laidTests := true, laidLooks := .later }
def FnWriteFloatsUptoCardSaid : Prop := Claim7.holds Tryd.pinned (.plain (OpenSpec.upto fnWriteFloatsSpec)) fnWriteFloatsUptoCard

/-- THE SECOND FORM's CARD OF 'laws.FnHilbertCopies'. -/
def fnHilbertCopiesUptoCard : Claim7 := { stood := { row := fnHilbertCopiesUptoRow, standIns := [], harness := (true, "b6d932fed163939354da38657b07b26a9d52371b88b21c485f1d41216d3478ac"), looks := true }, kinds := [], alts := [], laidByText := true, laidKinds := [.sentinel, .sentinel], laidTests := true, laidLooks := .later }
def FnHilbertCopiesUptoCardSaid : Prop := Claim7.holds Tryd.pinned (.plain (OpenSpec.upto fnHilbertCopiesSpec)) fnHilbertCopiesUptoCard

/-- THE SECOND FORM's CARD OF 'laws.FnVerify'. -/
def fnVerifyUptoCard : Claim7 := { stood := { row := fnVerifyUptoRow, standIns := [], harness := (true, "b6d932fed163939354da38657b07b26a9d52371b88b21c485f1d41216d3478ac"), looks := true }, kinds := [], alts := [], laidByText := true, laidKinds := [.sentinel, .sentinel, .sentinel, .sentinel, .sentinel, .sentinel, .sentinel, .sentinel], laidTests := true, laidLooks := .later }
def FnVerifyUptoCardSaid : Prop := Claim7.holds Tryd.pinned (.plain (OpenSpec.upto fnVerifySpec)) fnVerifyUptoCard

/-- THE SECOND FORM's CARD OF 'laws.FnTiles2'. -/
def fnTiles2UptoCard : Claim7 := { stood := { row := fnTiles2UptoRow, standIns := [], harness := (true, "b6d932fed163939354da38657b07b26a9d52371b88b21c485f1d41216d3478ac"), looks := true }, kinds := [], alts := [], laidByText := true, laidKinds := [.sentinel], laidTests := true, laidLooks := .later }
def FnTiles2UptoCardSaid : Prop := Claim7.holds Tryd.pinned (.plain (OpenSpec.upto fnTiles2Spec)) fnTiles2UptoCard
end Rows
end Go.Proofs.YtjabjnkiddldeaaDoor
