/-
  NARROWER THAN 'FOR EVERY INPUT', by the rows' own cells (each row's printed sentence says how): FnBoxExtendAgain: loops · FnTransform: loops · FnIsEmpty: loops.
  DERIVED. THE GIVEN ROWS OF THIS SEAT. 4 by the template 'for every input the law returns true; each argument reads behind the call as it read before'; 0 by the template 'total and deterministic' (their statements: YtjabjnkiddldeaaTotals.lean).
  GIVEN WITH THE SEED: the statements are not yours to turn. If you find one false, say at which input.
  Laid BY PROGRAM, IN A SANDBOX (cutbox-rows.mjs): the forced cells as the released guide's own fill.sh prints them over the translation 1b5b06b1306f448e… (all of the seat's roots in one cut). By AI agents, Wed Nov 11 2026. No macro, syntax, notation, axiom, sorry.
-/
import Derived.Test.YtjabjnkiddldeaaChecked
import GoSem.Claim
import GoSem.ClaimJoined
import GoSem.ClaimMapViews
import Derived.JoinedTies
import Derived.KernelRfl
namespace Go.Proofs.Ytjabjnkiddldeaa
/- THE CELL 'sum', in the pinned program and in every row, IS THE sha256 OF THE DUMP (.gsa) THAT YtjabjnkiddldeaaProg.lean LOADS. Nothing in Lean hashes anything: it is a label: what it is worth is what the hold of that sum in a sandbox is worth. -/
noncomputable def Try.pinned : Pinned := { name := "ytjabjnkiddldeaa", sum := "1b5b06b1306f448ea3dcd5057b21662351b9e875ef6b2af0dc3c3699f456d966", checked := Try.checked }
namespace Rows
def none {H : Type} : Left H := { results := [], args := [] }

/-- 'laws.FnBoxExtendAgain': WHATEVER THE INPUT: true; the input reads as it did. -/
def fnBoxExtendAgainSpec : ChangeSpec := { name := "fnBoxExtendAgain", fn := fun _ => fun
  | [d1, d2] => { results := [.lit (.bool true)], args := [d1, d2] }
  | _ => none }
def fnBoxExtendAgainRow : OpenClaim := { program := "ytjabjnkiddldeaa", sum := "1b5b06b1306f448ea3dcd5057b21662351b9e875ef6b2af0dc3c3699f456d966", func := "pub-orthodrome/laws.FnBoxExtendAgain", spec := "fnBoxExtendAgain", inPlace := ["math.Float64frombits", "math.archMin", "math.Float64bits", "math.archMax"], unfollowed := true, recurses := true, loops := true, apart := false }
def FnBoxExtendAgainSaid : Prop := fnBoxExtendAgainRow.holds Try.pinned (OpenSpec.ofChange fnBoxExtendAgainSpec)

/-- ITS FALSE NEIGHBOUR: 'it returns false'. Refute it at one input. -/
def fnBoxExtendAgainWrong : ChangeSpec := { name := "fnBoxExtendAgain", fn := fun _ => fun
  | [d1, d2] => { results := [.lit (.bool false)], args := [d1, d2] }
  | _ => none }
def FnBoxExtendAgainWrongFalsely : Prop := fnBoxExtendAgainRow.holds Try.pinned (OpenSpec.ofChange fnBoxExtendAgainWrong)

/-- 'laws.FnTransform': WHATEVER THE INPUT: true; the input reads as it did. -/
def fnTransformSpec : ChangeSpec := { name := "fnTransform", fn := fun _ => fun
  | [d1, d2] => { results := [.lit (.bool true)], args := [d1, d2] }
  | _ => none }
def fnTransformRow : OpenClaim := { program := "ytjabjnkiddldeaa", sum := "1b5b06b1306f448ea3dcd5057b21662351b9e875ef6b2af0dc3c3699f456d966", func := "pub-orthodrome/laws.FnTransform", spec := "fnTransform", inPlace := ["math.archTrunc", "math.Float64bits", "math.Float64frombits"], unfollowed := true, recurses := true, loops := true, apart := false }
def FnTransformSaid : Prop := fnTransformRow.holds Try.pinned (OpenSpec.ofChange fnTransformSpec)

/-- ITS FALSE NEIGHBOUR: 'it returns false'. Refute it at one input. -/
def fnTransformWrong : ChangeSpec := { name := "fnTransform", fn := fun _ => fun
  | [d1, d2] => { results := [.lit (.bool false)], args := [d1, d2] }
  | _ => none }
def FnTransformWrongFalsely : Prop := fnTransformRow.holds Try.pinned (OpenSpec.ofChange fnTransformWrong)

/-- 'laws.FnIsEmpty': WHATEVER THE INPUT: true; the input reads as it did. -/
def fnIsEmptySpec : ChangeSpec := { name := "fnIsEmpty", fn := fun _ => fun
  | [d] => { results := [.lit (.bool true)], args := [d] }
  | _ => none }
def fnIsEmptyRow : OpenClaim := { program := "ytjabjnkiddldeaa", sum := "1b5b06b1306f448ea3dcd5057b21662351b9e875ef6b2af0dc3c3699f456d966", func := "pub-orthodrome/laws.FnIsEmpty", spec := "fnIsEmpty", unfollowed := true, recurses := true, loops := true, apart := false }
def FnIsEmptySaid : Prop := fnIsEmptyRow.holds Try.pinned (OpenSpec.ofChange fnIsEmptySpec)

/-- ITS FALSE NEIGHBOUR: 'it returns false'. Refute it at one input. -/
def fnIsEmptyWrong : ChangeSpec := { name := "fnIsEmpty", fn := fun _ => fun
  | [d] => { results := [.lit (.bool false)], args := [d] }
  | _ => none }
def FnIsEmptyWrongFalsely : Prop := fnIsEmptyRow.holds Try.pinned (OpenSpec.ofChange fnIsEmptyWrong)

/-- 'laws.FnSetLine': WHATEVER THE INPUT: true; the input reads as it did. -/
def fnSetLineSpec : ChangeSpec := { name := "fnSetLine", fn := fun _ => fun
  | [d1, d2, d3] => { results := [.lit (.bool true)], args := [d1, d2, d3] }
  | _ => none }
def fnSetLineRow : OpenClaim := { program := "ytjabjnkiddldeaa", sum := "1b5b06b1306f448ea3dcd5057b21662351b9e875ef6b2af0dc3c3699f456d966", func := "pub-orthodrome/laws.FnSetLine", spec := "fnSetLine", inPlace := ["math.Float64bits"], unfollowed := true, recurses := true, apart := false }
def FnSetLineSaid : Prop := fnSetLineRow.holds Try.pinned (OpenSpec.ofChange fnSetLineSpec)

/-- ITS FALSE NEIGHBOUR: 'it returns false'. Refute it at one input. -/
def fnSetLineWrong : ChangeSpec := { name := "fnSetLine", fn := fun _ => fun
  | [d1, d2, d3] => { results := [.lit (.bool false)], args := [d1, d2, d3] }
  | _ => none }
def FnSetLineWrongFalsely : Prop := fnSetLineRow.holds Try.pinned (OpenSpec.ofChange fnSetLineWrong)

/- THE SECOND FORM. 'bulk': how many values and letters a reading holds, each counted each time it is reached (what is shared counts as often as it is met; a slice's spare places count too). A statement '..UptoSaid' is the law's where the arguments, and the package variables that the reading takes, are together of bulk at most 1048576: NARROWER than '..Said'. Prove '..Said' where nothing that the law and all that it calls make is longer than what came in: it says more and counts as full. Else prove '..UptoSaid'. A law counts once. -/
mutual
def uptoBulk {H : Type} : DataW H → Nat
  | .lit (.string bytes) => bytes.length + 1
  | .lit _ => 1
  | .nil => 1
  | .ptr d => uptoBulk d + 1
  | .slice elems spare => uptoBulkAll elems + uptoBulkAll spare + 1
  | .agg parts => uptoBulkAll parts + 1
  | .iface _ d => uptoBulk d + 1
  | .map entries => uptoBulkEntries entries + 1
  | .held _ => 1
def uptoBulkAll {H : Type} : List (DataW H) → Nat
  | [] => 0
  | d :: r => uptoBulk d + uptoBulkAll r
def uptoBulkEntries {H : Type} : List (Lit × DataW H) → Nat
  | [] => 0
  | x :: r => uptoBulkEntry x + uptoBulkEntries r
def uptoBulkEntry {H : Type} : Lit × DataW H → Nat
  | (.string bytes, d) => bytes.length + uptoBulk d + 1
  | (_, d) => uptoBulk d + 1
 end
def uptoSmall : (H : Type) → List (DataW H) → Bool := fun _ ds => decide (uptoBulkAll ds ≤ 1048576)
def OpenSpec.upto (s : _root_.Go.ChangeSpec) : _root_.Go.OpenSpec := { _root_.Go.OpenSpec.ofChange s with cond := some uptoSmall }

/-- 'laws.FnBoxExtendAgain', WHERE WHAT IT READS IS OF BULK AT MOST 1048576: true; the input reads as it did. -/
def fnBoxExtendAgainUptoRow : OpenClaim := { program := "ytjabjnkiddldeaa", sum := "1b5b06b1306f448ea3dcd5057b21662351b9e875ef6b2af0dc3c3699f456d966", func := "pub-orthodrome/laws.FnBoxExtendAgain", spec := "fnBoxExtendAgain", inPlace := ["math.Float64frombits", "math.archMin", "math.Float64bits", "math.archMax"], unfollowed := true, recurses := true, loops := true, apart := false, narrowed := true }
def FnBoxExtendAgainUptoSaid : Prop := fnBoxExtendAgainUptoRow.holds Try.pinned (OpenSpec.upto fnBoxExtendAgainSpec)

/-- 'laws.FnTransform', WHERE WHAT IT READS IS OF BULK AT MOST 1048576: true; the input reads as it did. -/
def fnTransformUptoRow : OpenClaim := { program := "ytjabjnkiddldeaa", sum := "1b5b06b1306f448ea3dcd5057b21662351b9e875ef6b2af0dc3c3699f456d966", func := "pub-orthodrome/laws.FnTransform", spec := "fnTransform", inPlace := ["math.archTrunc", "math.Float64bits", "math.Float64frombits"], unfollowed := true, recurses := true, loops := true, apart := false, narrowed := true }
def FnTransformUptoSaid : Prop := fnTransformUptoRow.holds Try.pinned (OpenSpec.upto fnTransformSpec)

/-- 'laws.FnIsEmpty', WHERE WHAT IT READS IS OF BULK AT MOST 1048576: true; the input reads as it did. -/
def fnIsEmptyUptoRow : OpenClaim := { program := "ytjabjnkiddldeaa", sum := "1b5b06b1306f448ea3dcd5057b21662351b9e875ef6b2af0dc3c3699f456d966", func := "pub-orthodrome/laws.FnIsEmpty", spec := "fnIsEmpty", unfollowed := true, recurses := true, loops := true, apart := false, narrowed := true }
def FnIsEmptyUptoSaid : Prop := fnIsEmptyUptoRow.holds Try.pinned (OpenSpec.upto fnIsEmptySpec)

/-- 'laws.FnSetLine', WHERE WHAT IT READS IS OF BULK AT MOST 1048576: true; the input reads as it did. -/
def fnSetLineUptoRow : OpenClaim := { program := "ytjabjnkiddldeaa", sum := "1b5b06b1306f448ea3dcd5057b21662351b9e875ef6b2af0dc3c3699f456d966", func := "pub-orthodrome/laws.FnSetLine", spec := "fnSetLine", inPlace := ["math.Float64bits"], unfollowed := true, recurses := true, apart := false, narrowed := true }
def FnSetLineUptoSaid : Prop := fnSetLineUptoRow.holds Try.pinned (OpenSpec.upto fnSetLineSpec)

end Rows
end Go.Proofs.Ytjabjnkiddldeaa
