/-
  No cell of these rows narrows 'for every input' (looked for: loops, veiled, ifaces, maps, wideKeys, modest, calm, conditions, laid).
  DERIVED. THE GIVEN ROWS OF THIS SEAT. 6 by the template 'for every input the law returns true; each argument reads behind the call as it read before'; 0 by the template 'total and deterministic' (their statements: YtcppjdjimmnlkaaTotals.lean).
  GIVEN WITH THE SEED: the statements are not yours to turn. If you find one false, say at which input.
  Laid BY PROGRAM, IN A SANDBOX (cutbox-rows.mjs): the forced cells as the released guide's own fill.sh prints them over the translation 89e5162d245dd966… (all of the seat's roots in one cut). By AI agents, Wed Nov 11 2026. No macro, syntax, notation, axiom, sorry.
-/
import Derived.Test.YtcppjdjimmnlkaaChecked
import GoSem.Claim
import GoSem.ClaimJoined
import GoSem.ClaimMapViews
import Derived.JoinedTies
import Derived.KernelRfl
namespace Go.Proofs.Ytcppjdjimmnlkaa
/- THE CELL 'sum', in the pinned program and in every row, IS THE sha256 OF THE DUMP (.gsa) THAT YtcppjdjimmnlkaaProg.lean LOADS. Nothing in Lean hashes anything: it is a label: what it is worth is what the hold of that sum in a sandbox is worth. -/
noncomputable def Try.pinned : Pinned := { name := "ytcppjdjimmnlkaa", sum := "89e5162d245dd96640990345fdaa6bfda79084cef46ef8e0d40d2db5c2b89e61", checked := Try.checked }
namespace Rows
def none {H : Type} : Left H := { results := [], args := [] }

/-- 'laws.FnSameSign': WHATEVER THE INPUT: true; the input reads as it did. -/
def fnSameSignSpec : ChangeSpec := { name := "fnSameSign", fn := fun _ => fun
  | [d1, d2] => { results := [.lit (.bool true)], args := [d1, d2] }
  | _ => none }
def fnSameSignRow : OpenClaim := { program := "ytcppjdjimmnlkaa", sum := "89e5162d245dd96640990345fdaa6bfda79084cef46ef8e0d40d2db5c2b89e61", func := "pub-orthodrome/laws.FnSameSign", spec := "fnSameSign", apart := false }
def FnSameSignSaid : Prop := fnSameSignRow.holds Try.pinned (OpenSpec.ofChange fnSameSignSpec)

/-- ITS FALSE NEIGHBOUR: 'it returns false'. Refute it at one input. -/
def fnSameSignWrong : ChangeSpec := { name := "fnSameSign", fn := fun _ => fun
  | [d1, d2] => { results := [.lit (.bool false)], args := [d1, d2] }
  | _ => none }
def FnSameSignWrongFalsely : Prop := fnSameSignRow.holds Try.pinned (OpenSpec.ofChange fnSameSignWrong)

/-- 'laws.FnStride': WHATEVER THE INPUT: true; the input reads as it did. -/
def fnStrideSpec : ChangeSpec := { name := "fnStride", fn := fun _ => fun
  | [d] => { results := [.lit (.bool true)], args := [d] }
  | _ => none }
def fnStrideRow : OpenClaim := { program := "ytcppjdjimmnlkaa", sum := "89e5162d245dd96640990345fdaa6bfda79084cef46ef8e0d40d2db5c2b89e61", func := "pub-orthodrome/laws.FnStride", spec := "fnStride", apart := false }
def FnStrideSaid : Prop := fnStrideRow.holds Try.pinned (OpenSpec.ofChange fnStrideSpec)

/-- ITS FALSE NEIGHBOUR: 'it returns false'. Refute it at one input. -/
def fnStrideWrong : ChangeSpec := { name := "fnStride", fn := fun _ => fun
  | [d] => { results := [.lit (.bool false)], args := [d] }
  | _ => none }
def FnStrideWrongFalsely : Prop := fnStrideRow.holds Try.pinned (OpenSpec.ofChange fnStrideWrong)

/-- 'laws.FnTrimRight': WHATEVER THE INPUT: true; the input reads as it did. -/
def fnTrimRightSpec : ChangeSpec := { name := "fnTrimRight", fn := fun _ => fun
  | [d1, d2] => { results := [.lit (.bool true)], args := [d1, d2] }
  | _ => none }
def fnTrimRightRow : OpenClaim := { program := "ytcppjdjimmnlkaa", sum := "89e5162d245dd96640990345fdaa6bfda79084cef46ef8e0d40d2db5c2b89e61", func := "pub-orthodrome/laws.FnTrimRight", spec := "fnTrimRight", apart := false }
def FnTrimRightSaid : Prop := fnTrimRightRow.holds Try.pinned (OpenSpec.ofChange fnTrimRightSpec)

/-- ITS FALSE NEIGHBOUR: 'it returns false'. Refute it at one input. -/
def fnTrimRightWrong : ChangeSpec := { name := "fnTrimRight", fn := fun _ => fun
  | [d1, d2] => { results := [.lit (.bool false)], args := [d1, d2] }
  | _ => none }
def FnTrimRightWrongFalsely : Prop := fnTrimRightRow.holds Try.pinned (OpenSpec.ofChange fnTrimRightWrong)

/-- 'laws.FnReverseFlat1': WHATEVER THE INPUT: true; the input reads as it did. -/
def fnReverseFlat1Spec : ChangeSpec := { name := "fnReverseFlat1", fn := fun _ => fun
  | [d1, d2] => { results := [.lit (.bool true)], args := [d1, d2] }
  | _ => none }
def fnReverseFlat1Row : OpenClaim := { program := "ytcppjdjimmnlkaa", sum := "89e5162d245dd96640990345fdaa6bfda79084cef46ef8e0d40d2db5c2b89e61", func := "pub-orthodrome/laws.FnReverseFlat1", spec := "fnReverseFlat1", inPlace := ["math.Float64bits"], unfollowed := true, recurses := true, apart := false }
def FnReverseFlat1Said : Prop := fnReverseFlat1Row.holds Try.pinned (OpenSpec.ofChange fnReverseFlat1Spec)

/-- ITS FALSE NEIGHBOUR: 'it returns false'. Refute it at one input. -/
def fnReverseFlat1Wrong : ChangeSpec := { name := "fnReverseFlat1", fn := fun _ => fun
  | [d1, d2] => { results := [.lit (.bool false)], args := [d1, d2] }
  | _ => none }
def FnReverseFlat1WrongFalsely : Prop := fnReverseFlat1Row.holds Try.pinned (OpenSpec.ofChange fnReverseFlat1Wrong)

/-- 'laws.FnLess2D': WHATEVER THE INPUT: true; the input reads as it did. -/
def fnLess2DSpec : ChangeSpec := { name := "fnLess2D", fn := fun _ => fun
  | [d1, d2] => { results := [.lit (.bool true)], args := [d1, d2] }
  | _ => none }
def fnLess2DRow : OpenClaim := { program := "ytcppjdjimmnlkaa", sum := "89e5162d245dd96640990345fdaa6bfda79084cef46ef8e0d40d2db5c2b89e61", func := "pub-orthodrome/laws.FnLess2D", spec := "fnLess2D", unfollowed := true, recurses := true, apart := false }
def FnLess2DSaid : Prop := fnLess2DRow.holds Try.pinned (OpenSpec.ofChange fnLess2DSpec)

/-- ITS FALSE NEIGHBOUR: 'it returns false'. Refute it at one input. -/
def fnLess2DWrong : ChangeSpec := { name := "fnLess2D", fn := fun _ => fun
  | [d1, d2] => { results := [.lit (.bool false)], args := [d1, d2] }
  | _ => none }
def FnLess2DWrongFalsely : Prop := fnLess2DRow.holds Try.pinned (OpenSpec.ofChange fnLess2DWrong)

/-- 'laws.FnKCompare': WHATEVER THE INPUT: true; the input reads as it did. -/
def fnKCompareSpec : ChangeSpec := { name := "fnKCompare", fn := fun _ => fun
  | [d1, d2, d3] => { results := [.lit (.bool true)], args := [d1, d2, d3] }
  | _ => none }
def fnKCompareRow : OpenClaim := { program := "ytcppjdjimmnlkaa", sum := "89e5162d245dd96640990345fdaa6bfda79084cef46ef8e0d40d2db5c2b89e61", func := "pub-orthodrome/laws.FnKCompare", spec := "fnKCompare", inPlace := ["math.archTrunc", "math.Float64bits", "math.Float64frombits"], unfollowed := true, recurses := true, apart := false }
def FnKCompareSaid : Prop := fnKCompareRow.holds Try.pinned (OpenSpec.ofChange fnKCompareSpec)

/-- ITS FALSE NEIGHBOUR: 'it returns false'. Refute it at one input. -/
def fnKCompareWrong : ChangeSpec := { name := "fnKCompare", fn := fun _ => fun
  | [d1, d2, d3] => { results := [.lit (.bool false)], args := [d1, d2, d3] }
  | _ => none }
def FnKCompareWrongFalsely : Prop := fnKCompareRow.holds Try.pinned (OpenSpec.ofChange fnKCompareWrong)

/- THE SECOND FORM. 'bulk': how many values and letters a reading holds, each counted each time it is reached (what is shared counts as often as it is met; a slice's spare places count too). A statement '..UptoSaid' is the law's where the arguments, and the package variables that the reading takes, are together of bulk at most 1048576: NARROWER than '..Said'. Prove '..Said' where nothing that the law and all that it calls make is longer than what came in: it says more and counts as full. Else prove '..UptoSaid'. A law counts once. -/
mutual
def uptoBulk {H : Type} : DataW H → Nat
  | .lit (.string bytes) => bytes.length + 1
  | .lit _ => 1
  | .nil => 1
  | .ptr d => uptoBulk d + 1
  | .slice elems spare => uptoBulkAll elems + uptoBulkAll spare + 1
  | .agg parts => uptoBulkAll parts + 1
  | .iface _ d => uptoBulk d + 1
  | .map entries => uptoBulkEntries entries + 1
  | .held _ => 1
def uptoBulkAll {H : Type} : List (DataW H) → Nat
  | [] => 0
  | d :: r => uptoBulk d + uptoBulkAll r
def uptoBulkEntries {H : Type} : List (Lit × DataW H) → Nat
  | [] => 0
  | x :: r => uptoBulkEntry x + uptoBulkEntries r
def uptoBulkEntry {H : Type} : Lit × DataW H → Nat
  | (.string bytes, d) => bytes.length + uptoBulk d + 1
  | (_, d) => uptoBulk d + 1
 end
def uptoSmall : (H : Type) → List (DataW H) → Bool := fun _ ds => decide (uptoBulkAll ds ≤ 1048576)
def OpenSpec.upto (s : _root_.Go.ChangeSpec) : _root_.Go.OpenSpec := { _root_.Go.OpenSpec.ofChange s with cond := some uptoSmall }

/-- 'laws.FnSameSign', WHERE WHAT IT READS IS OF BULK AT MOST 1048576: true; the input reads as it did. -/
def fnSameSignUptoRow : OpenClaim := { program := "ytcppjdjimmnlkaa", sum := "89e5162d245dd96640990345fdaa6bfda79084cef46ef8e0d40d2db5c2b89e61", func := "pub-orthodrome/laws.FnSameSign", spec := "fnSameSign", apart := false, narrowed := true }
def FnSameSignUptoSaid : Prop := fnSameSignUptoRow.holds Try.pinned (OpenSpec.upto fnSameSignSpec)

/-- 'laws.FnStride', WHERE WHAT IT READS IS OF BULK AT MOST 1048576: true; the input reads as it did. -/
def fnStrideUptoRow : OpenClaim := { program := "ytcppjdjimmnlkaa", sum := "89e5162d245dd96640990345fdaa6bfda79084cef46ef8e0d40d2db5c2b89e61", func := "pub-orthodrome/laws.FnStride", spec := "fnStride", apart := false, narrowed := true }
def FnStrideUptoSaid : Prop := fnStrideUptoRow.holds Try.pinned (OpenSpec.upto fnStrideSpec)

/-- 'laws.FnTrimRight', WHERE WHAT IT READS IS OF BULK AT MOST 1048576: true; the input reads as it did. -/
def fnTrimRightUptoRow : OpenClaim := { program := "ytcppjdjimmnlkaa", sum := "89e5162d245dd96640990345fdaa6bfda79084cef46ef8e0d40d2db5c2b89e61", func := "pub-orthodrome/laws.FnTrimRight", spec := "fnTrimRight", apart := false, narrowed := true }
def FnTrimRightUptoSaid : Prop := fnTrimRightUptoRow.holds Try.pinned (OpenSpec.upto fnTrimRightSpec)

/-- 'laws.FnReverseFlat1', WHERE WHAT IT READS IS OF BULK AT MOST 1048576: true; the input reads as it did. -/
def fnReverseFlat1UptoRow : OpenClaim := { program := "ytcppjdjimmnlkaa", sum := "89e5162d245dd96640990345fdaa6bfda79084cef46ef8e0d40d2db5c2b89e61", func := "pub-orthodrome/laws.FnReverseFlat1", spec := "fnReverseFlat1", inPlace := ["math.Float64bits"], unfollowed := true, recurses := true, apart := false, narrowed := true }
def FnReverseFlat1UptoSaid : Prop := fnReverseFlat1UptoRow.holds Try.pinned (OpenSpec.upto fnReverseFlat1Spec)

/-- 'laws.FnLess2D', WHERE WHAT IT READS IS OF BULK AT MOST 1048576: true; the input reads as it did. -/
def fnLess2DUptoRow : OpenClaim := { program := "ytcppjdjimmnlkaa", sum := "89e5162d245dd96640990345fdaa6bfda79084cef46ef8e0d40d2db5c2b89e61", func := "pub-orthodrome/laws.FnLess2D", spec := "fnLess2D", unfollowed := true, recurses := true, apart := false, narrowed := true }
def FnLess2DUptoSaid : Prop := fnLess2DUptoRow.holds Try.pinned (OpenSpec.upto fnLess2DSpec)

/-- 'laws.FnKCompare', WHERE WHAT IT READS IS OF BULK AT MOST 1048576: true; the input reads as it did. -/
def fnKCompareUptoRow : OpenClaim := { program := "ytcppjdjimmnlkaa", sum := "89e5162d245dd96640990345fdaa6bfda79084cef46ef8e0d40d2db5c2b89e61", func := "pub-orthodrome/laws.FnKCompare", spec := "fnKCompare", inPlace := ["math.archTrunc", "math.Float64bits", "math.Float64frombits"], unfollowed := true, recurses := true, apart := false, narrowed := true }
def FnKCompareUptoSaid : Prop := fnKCompareUptoRow.holds Try.pinned (OpenSpec.upto fnKCompareSpec)

end Rows
end Go.Proofs.Ytcppjdjimmnlkaa
