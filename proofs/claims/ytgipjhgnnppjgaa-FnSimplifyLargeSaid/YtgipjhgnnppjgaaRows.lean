/-
  No cell of these rows narrows 'for every input' (looked for: loops, veiled, ifaces, maps, wideKeys, modest, calm, conditions, laid).
  DERIVED. THE GIVEN ROWS OF THIS SEAT. 8 by the template 'for every input the law returns true; each argument reads behind the call as it read before'; 0 by the template 'total and deterministic' (their statements: YtgipjhgnnppjgaaTotals.lean).
  GIVEN WITH THE SEED: the statements are not yours to turn. If you find one false, say at which input.
  Laid BY PROGRAM, IN A SANDBOX (cutbox-rows.mjs): the forced cells as the released guide's own fill.sh prints them over the translation 8d485925a0379d3d… (all of the seat's roots in one cut). By AI agents, Wed Nov 11 2026. No macro, syntax, notation, axiom, sorry.
-/
import Derived.Test.YtgipjhgnnppjgaaChecked
import GoSem.Claim
import GoSem.ClaimJoined
import GoSem.ClaimMapViews
import Derived.JoinedTies
import Derived.KernelRfl
namespace Go.Proofs.Ytgipjhgnnppjgaa
/- THE CELL 'sum', in the pinned program and in every row, IS THE sha256 OF THE DUMP (.gsa) THAT YtgipjhgnnppjgaaProg.lean LOADS. Nothing in Lean hashes anything: it is a label: what it is worth is what the hold of that sum in a sandbox is worth. -/
noncomputable def Try.pinned : Pinned := { name := "ytgipjhgnnppjgaa", sum := "8d485925a0379d3d04372e9c48289961f8a50b4a54efdba4aea90bb445b9ff35", checked := Try.checked }
namespace Rows
def none {H : Type} : Left H := { results := [], args := [] }

/-- 'laws.FnLineParameter': WHATEVER THE INPUT: true; the input reads as it did. -/
def fnLineParameterSpec : ChangeSpec := { name := "fnLineParameter", fn := fun _ => fun
  | [d1, d2, d3, d4] => { results := [.lit (.bool true)], args := [d1, d2, d3, d4] }
  | _ => none }
def fnLineParameterRow : OpenClaim := { program := "ytgipjhgnnppjgaa", sum := "8d485925a0379d3d04372e9c48289961f8a50b4a54efdba4aea90bb445b9ff35", func := "pub-orthodrome/laws.FnLineParameter", spec := "fnLineParameter", inPlace := ["math.archTrunc", "math.Float64bits", "math.Float64frombits"], apart := false }
def FnLineParameterSaid : Prop := fnLineParameterRow.holds Try.pinned (OpenSpec.ofChange fnLineParameterSpec)

/-- ITS FALSE NEIGHBOUR: 'it returns false'. Refute it at one input. -/
def fnLineParameterWrong : ChangeSpec := { name := "fnLineParameter", fn := fun _ => fun
  | [d1, d2, d3, d4] => { results := [.lit (.bool false)], args := [d1, d2, d3, d4] }
  | _ => none }
def FnLineParameterWrongFalsely : Prop := fnLineParameterRow.holds Try.pinned (OpenSpec.ofChange fnLineParameterWrong)

/-- 'laws.FnSortLen': WHATEVER THE INPUT: true; the input reads as it did. -/
def fnSortLenSpec : ChangeSpec := { name := "fnSortLen", fn := fun _ => fun
  | [d1, d2] => { results := [.lit (.bool true)], args := [d1, d2] }
  | _ => none }
def fnSortLenRow : OpenClaim := { program := "ytgipjhgnnppjgaa", sum := "8d485925a0379d3d04372e9c48289961f8a50b4a54efdba4aea90bb445b9ff35", func := "pub-orthodrome/laws.FnSortLen", spec := "fnSortLen", unfollowed := true, recurses := true, apart := false }
def FnSortLenSaid : Prop := fnSortLenRow.holds Try.pinned (OpenSpec.ofChange fnSortLenSpec)

/-- ITS FALSE NEIGHBOUR: 'it returns false'. Refute it at one input. -/
def fnSortLenWrong : ChangeSpec := { name := "fnSortLen", fn := fun _ => fun
  | [d1, d2] => { results := [.lit (.bool false)], args := [d1, d2] }
  | _ => none }
def FnSortLenWrongFalsely : Prop := fnSortLenRow.holds Try.pinned (OpenSpec.ofChange fnSortLenWrong)

/-- 'laws.FnDoubleArea3': WHATEVER THE INPUT: true; the input reads as it did. -/
def fnDoubleArea3Spec : ChangeSpec := { name := "fnDoubleArea3", fn := fun _ => fun
  | [d1, d2, d3] => { results := [.lit (.bool true)], args := [d1, d2, d3] }
  | _ => none }
def fnDoubleArea3Row : OpenClaim := { program := "ytgipjhgnnppjgaa", sum := "8d485925a0379d3d04372e9c48289961f8a50b4a54efdba4aea90bb445b9ff35", func := "pub-orthodrome/laws.FnDoubleArea3", spec := "fnDoubleArea3", inPlace := ["math.archTrunc", "math.Float64bits", "math.Float64frombits"], unfollowed := true, recurses := true, apart := false }
def FnDoubleArea3Said : Prop := fnDoubleArea3Row.holds Try.pinned (OpenSpec.ofChange fnDoubleArea3Spec)

/-- ITS FALSE NEIGHBOUR: 'it returns false'. Refute it at one input. -/
def fnDoubleArea3Wrong : ChangeSpec := { name := "fnDoubleArea3", fn := fun _ => fun
  | [d1, d2, d3] => { results := [.lit (.bool false)], args := [d1, d2, d3] }
  | _ => none }
def FnDoubleArea3WrongFalsely : Prop := fnDoubleArea3Row.holds Try.pinned (OpenSpec.ofChange fnDoubleArea3Wrong)

/-- 'laws.FnDeflate3': WHATEVER THE INPUT: true; the input reads as it did. -/
def fnDeflate3Spec : ChangeSpec := { name := "fnDeflate3", fn := fun _ => fun
  | [d1, d2] => { results := [.lit (.bool true)], args := [d1, d2] }
  | _ => none }
def fnDeflate3Row : OpenClaim := { program := "ytgipjhgnnppjgaa", sum := "8d485925a0379d3d04372e9c48289961f8a50b4a54efdba4aea90bb445b9ff35", func := "pub-orthodrome/laws.FnDeflate3", spec := "fnDeflate3", inPlace := ["math.Float64bits"], unfollowed := true, recurses := true, apart := false }
def FnDeflate3Said : Prop := fnDeflate3Row.holds Try.pinned (OpenSpec.ofChange fnDeflate3Spec)

/-- ITS FALSE NEIGHBOUR: 'it returns false'. Refute it at one input. -/
def fnDeflate3Wrong : ChangeSpec := { name := "fnDeflate3", fn := fun _ => fun
  | [d1, d2] => { results := [.lit (.bool false)], args := [d1, d2] }
  | _ => none }
def FnDeflate3WrongFalsely : Prop := fnDeflate3Row.holds Try.pinned (OpenSpec.ofChange fnDeflate3Wrong)

/-- 'laws.FnSpaceDot': WHATEVER THE INPUT: true; the input reads as it did. -/
def fnSpaceDotSpec : ChangeSpec := { name := "fnSpaceDot", fn := fun _ => fun
  | [d1, d2, d3, d4] => { results := [.lit (.bool true)], args := [d1, d2, d3, d4] }
  | _ => none }
def fnSpaceDotRow : OpenClaim := { program := "ytgipjhgnnppjgaa", sum := "8d485925a0379d3d04372e9c48289961f8a50b4a54efdba4aea90bb445b9ff35", func := "pub-orthodrome/laws.FnSpaceDot", spec := "fnSpaceDot", inPlace := ["math.archTrunc", "math.Float64bits", "math.Float64frombits"], apart := false }
def FnSpaceDotSaid : Prop := fnSpaceDotRow.holds Try.pinned (OpenSpec.ofChange fnSpaceDotSpec)

/-- ITS FALSE NEIGHBOUR: 'it returns false'. Refute it at one input. -/
def fnSpaceDotWrong : ChangeSpec := { name := "fnSpaceDot", fn := fun _ => fun
  | [d1, d2, d3, d4] => { results := [.lit (.bool false)], args := [d1, d2, d3, d4] }
  | _ => none }
def FnSpaceDotWrongFalsely : Prop := fnSpaceDotRow.holds Try.pinned (OpenSpec.ofChange fnSpaceDotWrong)

/-- 'laws.FnSimplifyLarge': WHATEVER THE INPUT: true; the input reads as it did. -/
def fnSimplifyLargeSpec : ChangeSpec := { name := "fnSimplifyLarge", fn := fun _ => fun
  | [d1, d2, d3] => { results := [.lit (.bool true)], args := [d1, d2, d3] }
  | _ => none }
def fnSimplifyLargeRow : OpenClaim := { program := "ytgipjhgnnppjgaa", sum := "8d485925a0379d3d04372e9c48289961f8a50b4a54efdba4aea90bb445b9ff35", func := "pub-orthodrome/laws.FnSimplifyLarge", spec := "fnSimplifyLarge", inPlace := ["math.archTrunc", "math.Float64bits", "math.Float64frombits"], unfollowed := true, recurses := true, apart := false }
def FnSimplifyLargeSaid : Prop := fnSimplifyLargeRow.holds Try.pinned (OpenSpec.ofChange fnSimplifyLargeSpec)

/-- ITS FALSE NEIGHBOUR: 'it returns false'. Refute it at one input. -/
def fnSimplifyLargeWrong : ChangeSpec := { name := "fnSimplifyLarge", fn := fun _ => fun
  | [d1, d2, d3] => { results := [.lit (.bool false)], args := [d1, d2, d3] }
  | _ => none }
def FnSimplifyLargeWrongFalsely : Prop := fnSimplifyLargeRow.holds Try.pinned (OpenSpec.ofChange fnSimplifyLargeWrong)

/-- 'laws.FnBoxUnion2': WHATEVER THE INPUT: true; the input reads as it did. -/
def fnBoxUnion2Spec : ChangeSpec := { name := "fnBoxUnion2", fn := fun _ => fun
  | [d1, d2, d3, d4] => { results := [.lit (.bool true)], args := [d1, d2, d3, d4] }
  | _ => none }
def fnBoxUnion2Row : OpenClaim := { program := "ytgipjhgnnppjgaa", sum := "8d485925a0379d3d04372e9c48289961f8a50b4a54efdba4aea90bb445b9ff35", func := "pub-orthodrome/laws.FnBoxUnion2", spec := "fnBoxUnion2", inPlace := ["math.archTrunc", "math.Float64bits", "math.Float64frombits", "math.archMin", "math.archMax"], apart := false }
def FnBoxUnion2Said : Prop := fnBoxUnion2Row.holds Try.pinned (OpenSpec.ofChange fnBoxUnion2Spec)

/-- ITS FALSE NEIGHBOUR: 'it returns false'. Refute it at one input. -/
def fnBoxUnion2Wrong : ChangeSpec := { name := "fnBoxUnion2", fn := fun _ => fun
  | [d1, d2, d3, d4] => { results := [.lit (.bool false)], args := [d1, d2, d3, d4] }
  | _ => none }
def FnBoxUnion2WrongFalsely : Prop := fnBoxUnion2Row.holds Try.pinned (OpenSpec.ofChange fnBoxUnion2Wrong)

/-- 'laws.FnBoxUnion3': WHATEVER THE INPUT: true; the input reads as it did. -/
def fnBoxUnion3Spec : ChangeSpec := { name := "fnBoxUnion3", fn := fun _ => fun
  | [d1, d2, d3, d4] => { results := [.lit (.bool true)], args := [d1, d2, d3, d4] }
  | _ => none }
def fnBoxUnion3Row : OpenClaim := { program := "ytgipjhgnnppjgaa", sum := "8d485925a0379d3d04372e9c48289961f8a50b4a54efdba4aea90bb445b9ff35", func := "pub-orthodrome/laws.FnBoxUnion3", spec := "fnBoxUnion3", inPlace := ["math.archTrunc", "math.Float64bits", "math.Float64frombits", "math.archMin", "math.archMax"], apart := false }
def FnBoxUnion3Said : Prop := fnBoxUnion3Row.holds Try.pinned (OpenSpec.ofChange fnBoxUnion3Spec)

/-- ITS FALSE NEIGHBOUR: 'it returns false'. Refute it at one input. -/
def fnBoxUnion3Wrong : ChangeSpec := { name := "fnBoxUnion3", fn := fun _ => fun
  | [d1, d2, d3, d4] => { results := [.lit (.bool false)], args := [d1, d2, d3, d4] }
  | _ => none }
def FnBoxUnion3WrongFalsely : Prop := fnBoxUnion3Row.holds Try.pinned (OpenSpec.ofChange fnBoxUnion3Wrong)

/- THE SECOND FORM. 'bulk': how many values and letters a reading holds, each counted each time it is reached (what is shared counts as often as it is met; a slice's spare places count too). A statement '..UptoSaid' is the law's where the arguments, and the package variables that the reading takes, are together of bulk at most 1048576: NARROWER than '..Said'. Prove '..Said' where nothing that the law and all that it calls make is longer than what came in: it says more and counts as full. Else prove '..UptoSaid'. A law counts once. -/
mutual
def uptoBulk {H : Type} : DataW H → Nat
  | .lit (.string bytes) => bytes.length + 1
  | .lit _ => 1
  | .nil => 1
  | .ptr d => uptoBulk d + 1
  | .slice elems spare => uptoBulkAll elems + uptoBulkAll spare + 1
  | .agg parts => uptoBulkAll parts + 1
  | .iface _ d => uptoBulk d + 1
  | .map entries => uptoBulkEntries entries + 1
  | .held _ => 1
def uptoBulkAll {H : Type} : List (DataW H) → Nat
  | [] => 0
  | d :: r => uptoBulk d + uptoBulkAll r
def uptoBulkEntries {H : Type} : List (Lit × DataW H) → Nat
  | [] => 0
  | x :: r => uptoBulkEntry x + uptoBulkEntries r
def uptoBulkEntry {H : Type} : Lit × DataW H → Nat
  | (.string bytes, d) => bytes.length + uptoBulk d + 1
  | (_, d) => uptoBulk d + 1
 end
def uptoSmall : (H : Type) → List (DataW H) → Bool := fun _ ds => decide (uptoBulkAll ds ≤ 1048576)
def OpenSpec.upto (s : _root_.Go.ChangeSpec) : _root_.Go.OpenSpec := { _root_.Go.OpenSpec.ofChange s with cond := some uptoSmall }

/-- 'laws.FnLineParameter', WHERE WHAT IT READS IS OF BULK AT MOST 1048576: true; the input reads as it did. -/
def fnLineParameterUptoRow : OpenClaim := { program := "ytgipjhgnnppjgaa", sum := "8d485925a0379d3d04372e9c48289961f8a50b4a54efdba4aea90bb445b9ff35", func := "pub-orthodrome/laws.FnLineParameter", spec := "fnLineParameter", inPlace := ["math.archTrunc", "math.Float64bits", "math.Float64frombits"], apart := false, narrowed := true }
def FnLineParameterUptoSaid : Prop := fnLineParameterUptoRow.holds Try.pinned (OpenSpec.upto fnLineParameterSpec)

/-- 'laws.FnSortLen', WHERE WHAT IT READS IS OF BULK AT MOST 1048576: true; the input reads as it did. -/
def fnSortLenUptoRow : OpenClaim := { program := "ytgipjhgnnppjgaa", sum := "8d485925a0379d3d04372e9c48289961f8a50b4a54efdba4aea90bb445b9ff35", func := "pub-orthodrome/laws.FnSortLen", spec := "fnSortLen", unfollowed := true, recurses := true, apart := false, narrowed := true }
def FnSortLenUptoSaid : Prop := fnSortLenUptoRow.holds Try.pinned (OpenSpec.upto fnSortLenSpec)

/-- 'laws.FnDoubleArea3', WHERE WHAT IT READS IS OF BULK AT MOST 1048576: true; the input reads as it did. -/
def fnDoubleArea3UptoRow : OpenClaim := { program := "ytgipjhgnnppjgaa", sum := "8d485925a0379d3d04372e9c48289961f8a50b4a54efdba4aea90bb445b9ff35", func := "pub-orthodrome/laws.FnDoubleArea3", spec := "fnDoubleArea3", inPlace := ["math.archTrunc", "math.Float64bits", "math.Float64frombits"], unfollowed := true, recurses := true, apart := false, narrowed := true }
def FnDoubleArea3UptoSaid : Prop := fnDoubleArea3UptoRow.holds Try.pinned (OpenSpec.upto fnDoubleArea3Spec)

/-- 'laws.FnDeflate3', WHERE WHAT IT READS IS OF BULK AT MOST 1048576: true; the input reads as it did. -/
def fnDeflate3UptoRow : OpenClaim := { program := "ytgipjhgnnppjgaa", sum := "8d485925a0379d3d04372e9c48289961f8a50b4a54efdba4aea90bb445b9ff35", func := "pub-orthodrome/laws.FnDeflate3", spec := "fnDeflate3", inPlace := ["math.Float64bits"], unfollowed := true, recurses := true, apart := false, narrowed := true }
def FnDeflate3UptoSaid : Prop := fnDeflate3UptoRow.holds Try.pinned (OpenSpec.upto fnDeflate3Spec)

/-- 'laws.FnSpaceDot', WHERE WHAT IT READS IS OF BULK AT MOST 1048576: true; the input reads as it did. -/
def fnSpaceDotUptoRow : OpenClaim := { program := "ytgipjhgnnppjgaa", sum := "8d485925a0379d3d04372e9c48289961f8a50b4a54efdba4aea90bb445b9ff35", func := "pub-orthodrome/laws.FnSpaceDot", spec := "fnSpaceDot", inPlace := ["math.archTrunc", "math.Float64bits", "math.Float64frombits"], apart := false, narrowed := true }
def FnSpaceDotUptoSaid : Prop := fnSpaceDotUptoRow.holds Try.pinned (OpenSpec.upto fnSpaceDotSpec)

/-- 'laws.FnSimplifyLarge', WHERE WHAT IT READS IS OF BULK AT MOST 1048576: true; the input reads as it did. -/
def fnSimplifyLargeUptoRow : OpenClaim := { program := "ytgipjhgnnppjgaa", sum := "8d485925a0379d3d04372e9c48289961f8a50b4a54efdba4aea90bb445b9ff35", func := "pub-orthodrome/laws.FnSimplifyLarge", spec := "fnSimplifyLarge", inPlace := ["math.archTrunc", "math.Float64bits", "math.Float64frombits"], unfollowed := true, recurses := true, apart := false, narrowed := true }
def FnSimplifyLargeUptoSaid : Prop := fnSimplifyLargeUptoRow.holds Try.pinned (OpenSpec.upto fnSimplifyLargeSpec)

/-- 'laws.FnBoxUnion2', WHERE WHAT IT READS IS OF BULK AT MOST 1048576: true; the input reads as it did. -/
def fnBoxUnion2UptoRow : OpenClaim := { program := "ytgipjhgnnppjgaa", sum := "8d485925a0379d3d04372e9c48289961f8a50b4a54efdba4aea90bb445b9ff35", func := "pub-orthodrome/laws.FnBoxUnion2", spec := "fnBoxUnion2", inPlace := ["math.archTrunc", "math.Float64bits", "math.Float64frombits", "math.archMin", "math.archMax"], apart := false, narrowed := true }
def FnBoxUnion2UptoSaid : Prop := fnBoxUnion2UptoRow.holds Try.pinned (OpenSpec.upto fnBoxUnion2Spec)

/-- 'laws.FnBoxUnion3', WHERE WHAT IT READS IS OF BULK AT MOST 1048576: true; the input reads as it did. -/
def fnBoxUnion3UptoRow : OpenClaim := { program := "ytgipjhgnnppjgaa", sum := "8d485925a0379d3d04372e9c48289961f8a50b4a54efdba4aea90bb445b9ff35", func := "pub-orthodrome/laws.FnBoxUnion3", spec := "fnBoxUnion3", inPlace := ["math.archTrunc", "math.Float64bits", "math.Float64frombits", "math.archMin", "math.archMax"], apart := false, narrowed := true }
def FnBoxUnion3UptoSaid : Prop := fnBoxUnion3UptoRow.holds Try.pinned (OpenSpec.upto fnBoxUnion3Spec)

end Rows
end Go.Proofs.Ytgipjhgnnppjgaa
