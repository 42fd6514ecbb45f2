/-
  No cell of these rows narrows 'for every input' (looked for: loops, veiled, ifaces, maps, wideKeys, modest, calm, conditions, laid).
  DERIVED. THE GIVEN ROWS OF THIS SEAT. 8 by the template 'for every input the law returns true; each argument reads behind the call as it read before'; 0 by the template 'total and deterministic' (their statements: YtlbbldhbggfoaaaTotals.lean).
  GIVEN WITH THE SEED: the statements are not yours to turn. If you find one false, say at which input.
  Laid BY PROGRAM, IN A SANDBOX (cutbox-rows.mjs): the forced cells as the released guide's own fill.sh prints them over the translation 46a88bcffb198116… (all of the seat's roots in one cut). By AI agents, Wed Nov 11 2026. No macro, syntax, notation, axiom, sorry.
-/
import Derived.Test.YtlbbldhbggfoaaaChecked
import GoSem.Claim
import GoSem.ClaimJoined
import GoSem.ClaimMapViews
import Derived.JoinedTies
import Derived.KernelRfl
namespace Go.Proofs.Ytlbbldhbggfoaaa
/- THE CELL 'sum', in the pinned program and in every row, IS THE sha256 OF THE DUMP (.gsa) THAT YtlbbldhbggfoaaaProg.lean LOADS. Nothing in Lean hashes anything: it is a label: what it is worth is what the hold of that sum in a sandbox is worth. -/
noncomputable def Try.pinned : Pinned := { name := "ytlbbldhbggfoaaa", sum := "46a88bcffb19811628f4eee6663c35be4263b16ee62245e5604bc1741fe6ac2e", checked := Try.checked }
namespace Rows
def none {H : Type} : Left H := { results := [], args := [] }

/-- 'laws.FnUnit2': WHATEVER THE INPUT: true; the input reads as it did. -/
def fnUnit2Spec : ChangeSpec := { name := "fnUnit2", fn := fun _ => fun
  | [d] => { results := [.lit (.bool true)], args := [d] }
  | _ => none }
def fnUnit2Row : OpenClaim := { program := "ytlbbldhbggfoaaa", sum := "46a88bcffb19811628f4eee6663c35be4263b16ee62245e5604bc1741fe6ac2e", func := "pub-orthodrome/laws.FnUnit2", spec := "fnUnit2", inPlace := ["math.archTrunc", "math.Float64bits", "math.Float64frombits", "math.archHypot", "math.sqrt"], apart := false }
def FnUnit2Said : Prop := fnUnit2Row.holds Try.pinned (OpenSpec.ofChange fnUnit2Spec)

/-- ITS FALSE NEIGHBOUR: 'it returns false'. Refute it at one input. -/
def fnUnit2Wrong : ChangeSpec := { name := "fnUnit2", fn := fun _ => fun
  | [d] => { results := [.lit (.bool false)], args := [d] }
  | _ => none }
def FnUnit2WrongFalsely : Prop := fnUnit2Row.holds Try.pinned (OpenSpec.ofChange fnUnit2Wrong)

/-- 'laws.FnUnit3': WHATEVER THE INPUT: true; the input reads as it did. -/
def fnUnit3Spec : ChangeSpec := { name := "fnUnit3", fn := fun _ => fun
  | [d] => { results := [.lit (.bool true)], args := [d] }
  | _ => none }
def fnUnit3Row : OpenClaim := { program := "ytlbbldhbggfoaaa", sum := "46a88bcffb19811628f4eee6663c35be4263b16ee62245e5604bc1741fe6ac2e", func := "pub-orthodrome/laws.FnUnit3", spec := "fnUnit3", inPlace := ["math.archTrunc", "math.Float64bits", "math.Float64frombits", "math.archHypot", "math.sqrt"], apart := false }
def FnUnit3Said : Prop := fnUnit3Row.holds Try.pinned (OpenSpec.ofChange fnUnit3Spec)

/-- ITS FALSE NEIGHBOUR: 'it returns false'. Refute it at one input. -/
def fnUnit3Wrong : ChangeSpec := { name := "fnUnit3", fn := fun _ => fun
  | [d] => { results := [.lit (.bool false)], args := [d] }
  | _ => none }
def FnUnit3WrongFalsely : Prop := fnUnit3Row.holds Try.pinned (OpenSpec.ofChange fnUnit3Wrong)

/-- 'laws.FnDegenerate2': WHATEVER THE INPUT: true; the input reads as it did. -/
def fnDegenerate2Spec : ChangeSpec := { name := "fnDegenerate2", fn := fun _ => fun
  | [d1, d2, d3, d4] => { results := [.lit (.bool true)], args := [d1, d2, d3, d4] }
  | _ => none }
def fnDegenerate2Row : OpenClaim := { program := "ytlbbldhbggfoaaa", sum := "46a88bcffb19811628f4eee6663c35be4263b16ee62245e5604bc1741fe6ac2e", func := "pub-orthodrome/laws.FnDegenerate2", spec := "fnDegenerate2", inPlace := ["math.archTrunc", "math.Float64bits", "math.Float64frombits", "math.sqrt", "math.archHypot"], apart := false }
def FnDegenerate2Said : Prop := fnDegenerate2Row.holds Try.pinned (OpenSpec.ofChange fnDegenerate2Spec)

/-- ITS FALSE NEIGHBOUR: 'it returns false'. Refute it at one input. -/
def fnDegenerate2Wrong : ChangeSpec := { name := "fnDegenerate2", fn := fun _ => fun
  | [d1, d2, d3, d4] => { results := [.lit (.bool false)], args := [d1, d2, d3, d4] }
  | _ => none }
def FnDegenerate2WrongFalsely : Prop := fnDegenerate2Row.holds Try.pinned (OpenSpec.ofChange fnDegenerate2Wrong)

/-- 'laws.FnSpaceDistance': WHATEVER THE INPUT: true; the input reads as it did. -/
def fnSpaceDistanceSpec : ChangeSpec := { name := "fnSpaceDistance", fn := fun _ => fun
  | [d1, d2] => { results := [.lit (.bool true)], args := [d1, d2] }
  | _ => none }
def fnSpaceDistanceRow : OpenClaim := { program := "ytlbbldhbggfoaaa", sum := "46a88bcffb19811628f4eee6663c35be4263b16ee62245e5604bc1741fe6ac2e", func := "pub-orthodrome/laws.FnSpaceDistance", spec := "fnSpaceDistance", inPlace := ["math.archTrunc", "math.Float64bits", "math.Float64frombits", "math.sqrt"], apart := false }
def FnSpaceDistanceSaid : Prop := fnSpaceDistanceRow.holds Try.pinned (OpenSpec.ofChange fnSpaceDistanceSpec)

/-- ITS FALSE NEIGHBOUR: 'it returns false'. Refute it at one input. -/
def fnSpaceDistanceWrong : ChangeSpec := { name := "fnSpaceDistance", fn := fun _ => fun
  | [d1, d2] => { results := [.lit (.bool false)], args := [d1, d2] }
  | _ => none }
def FnSpaceDistanceWrongFalsely : Prop := fnSpaceDistanceRow.holds Try.pinned (OpenSpec.ofChange fnSpaceDistanceWrong)

/-- 'laws.FnDegenerate3': WHATEVER THE INPUT: true; the input reads as it did. -/
def fnDegenerate3Spec : ChangeSpec := { name := "fnDegenerate3", fn := fun _ => fun
  | [d1, d2, d3, d4] => { results := [.lit (.bool true)], args := [d1, d2, d3, d4] }
  | _ => none }
def fnDegenerate3Row : OpenClaim := { program := "ytlbbldhbggfoaaa", sum := "46a88bcffb19811628f4eee6663c35be4263b16ee62245e5604bc1741fe6ac2e", func := "pub-orthodrome/laws.FnDegenerate3", spec := "fnDegenerate3", inPlace := ["math.archTrunc", "math.Float64bits", "math.Float64frombits", "math.sqrt", "math.archHypot"], apart := false }
def FnDegenerate3Said : Prop := fnDegenerate3Row.holds Try.pinned (OpenSpec.ofChange fnDegenerate3Spec)

/-- ITS FALSE NEIGHBOUR: 'it returns false'. Refute it at one input. -/
def fnDegenerate3Wrong : ChangeSpec := { name := "fnDegenerate3", fn := fun _ => fun
  | [d1, d2, d3, d4] => { results := [.lit (.bool false)], args := [d1, d2, d3, d4] }
  | _ => none }
def FnDegenerate3WrongFalsely : Prop := fnDegenerate3Row.holds Try.pinned (OpenSpec.ofChange fnDegenerate3Wrong)

/-- 'laws.FnPointLineDistance': WHATEVER THE INPUT: true; the input reads as it did. -/
def fnPointLineDistanceSpec : ChangeSpec := { name := "fnPointLineDistance", fn := fun _ => fun
  | [d1, d2, d3] => { results := [.lit (.bool true)], args := [d1, d2, d3] }
  | _ => none }
def fnPointLineDistanceRow : OpenClaim := { program := "ytlbbldhbggfoaaa", sum := "46a88bcffb19811628f4eee6663c35be4263b16ee62245e5604bc1741fe6ac2e", func := "pub-orthodrome/laws.FnPointLineDistance", spec := "fnPointLineDistance", inPlace := ["math.archTrunc", "math.Float64bits", "math.Float64frombits", "math.sqrt"], apart := false }
def FnPointLineDistanceSaid : Prop := fnPointLineDistanceRow.holds Try.pinned (OpenSpec.ofChange fnPointLineDistanceSpec)

/-- ITS FALSE NEIGHBOUR: 'it returns false'. Refute it at one input. -/
def fnPointLineDistanceWrong : ChangeSpec := { name := "fnPointLineDistance", fn := fun _ => fun
  | [d1, d2, d3] => { results := [.lit (.bool false)], args := [d1, d2, d3] }
  | _ => none }
def FnPointLineDistanceWrongFalsely : Prop := fnPointLineDistanceRow.holds Try.pinned (OpenSpec.ofChange fnPointLineDistanceWrong)

/-- 'laws.FnAngleDiff': WHATEVER THE INPUT: true; the input reads as it did. -/
def fnAngleDiffSpec : ChangeSpec := { name := "fnAngleDiff", fn := fun _ => fun
  | [d1, d2] => { results := [.lit (.bool true)], args := [d1, d2] }
  | _ => none }
def fnAngleDiffRow : OpenClaim := { program := "ytlbbldhbggfoaaa", sum := "46a88bcffb19811628f4eee6663c35be4263b16ee62245e5604bc1741fe6ac2e", func := "pub-orthodrome/laws.FnAngleDiff", spec := "fnAngleDiff", inPlace := ["math.Float64bits", "math.Float64frombits"], apart := false }
def FnAngleDiffSaid : Prop := fnAngleDiffRow.holds Try.pinned (OpenSpec.ofChange fnAngleDiffSpec)

/-- ITS FALSE NEIGHBOUR: 'it returns false'. Refute it at one input. -/
def fnAngleDiffWrong : ChangeSpec := { name := "fnAngleDiff", fn := fun _ => fun
  | [d1, d2] => { results := [.lit (.bool false)], args := [d1, d2] }
  | _ => none }
def FnAngleDiffWrongFalsely : Prop := fnAngleDiffRow.holds Try.pinned (OpenSpec.ofChange fnAngleDiffWrong)

/-- 'laws.FnPointLinesDistance': WHATEVER THE INPUT: true; the input reads as it did. -/
def fnPointLinesDistanceSpec : ChangeSpec := { name := "fnPointLinesDistance", fn := fun _ => fun
  | [d1, d2, d3] => { results := [.lit (.bool true)], args := [d1, d2, d3] }
  | _ => none }
def fnPointLinesDistanceRow : OpenClaim := { program := "ytlbbldhbggfoaaa", sum := "46a88bcffb19811628f4eee6663c35be4263b16ee62245e5604bc1741fe6ac2e", func := "pub-orthodrome/laws.FnPointLinesDistance", spec := "fnPointLinesDistance", inPlace := ["math.archTrunc", "math.Float64bits", "math.Float64frombits", "math.sqrt"], unfollowed := true, recurses := true, apart := false }
def FnPointLinesDistanceSaid : Prop := fnPointLinesDistanceRow.holds Try.pinned (OpenSpec.ofChange fnPointLinesDistanceSpec)

/-- ITS FALSE NEIGHBOUR: 'it returns false'. Refute it at one input. -/
def fnPointLinesDistanceWrong : ChangeSpec := { name := "fnPointLinesDistance", fn := fun _ => fun
  | [d1, d2, d3] => { results := [.lit (.bool false)], args := [d1, d2, d3] }
  | _ => none }
def FnPointLinesDistanceWrongFalsely : Prop := fnPointLinesDistanceRow.holds Try.pinned (OpenSpec.ofChange fnPointLinesDistanceWrong)

/- THE SECOND FORM. 'bulk': how many values and letters a reading holds, each counted each time it is reached (what is shared counts as often as it is met; a slice's spare places count too). A statement '..UptoSaid' is the law's where the arguments, and the package variables that the reading takes, are together of bulk at most 1048576: NARROWER than '..Said'. Prove '..Said' where nothing that the law and all that it calls make is longer than what came in: it says more and counts as full. Else prove '..UptoSaid'. A law counts once. -/
mutual
def uptoBulk {H : Type} : DataW H → Nat
  | .lit (.string bytes) => bytes.length + 1
  | .lit _ => 1
  | .nil => 1
  | .ptr d => uptoBulk d + 1
  | .slice elems spare => uptoBulkAll elems + uptoBulkAll spare + 1
  | .agg parts => uptoBulkAll parts + 1
  | .iface _ d => uptoBulk d + 1
  | .map entries => uptoBulkEntries entries + 1
  | .held _ => 1
def uptoBulkAll {H : Type} : List (DataW H) → Nat
  | [] => 0
  | d :: r => uptoBulk d + uptoBulkAll r
def uptoBulkEntries {H : Type} : List (Lit × DataW H) → Nat
  | [] => 0
  | x :: r => uptoBulkEntry x + uptoBulkEntries r
def uptoBulkEntry {H : Type} : Lit × DataW H → Nat
  | (.string bytes, d) => bytes.length + uptoBulk d + 1
  | (_, d) => uptoBulk d + 1
 end
def uptoSmall : (H : Type) → List (DataW H) → Bool := fun _ ds => decide (uptoBulkAll ds ≤ 1048576)
def OpenSpec.upto (s : _root_.Go.ChangeSpec) : _root_.Go.OpenSpec := { _root_.Go.OpenSpec.ofChange s with cond := some uptoSmall }

/-- 'laws.FnUnit2', WHERE WHAT IT READS IS OF BULK AT MOST 1048576: true; the input reads as it did. -/
def fnUnit2UptoRow : OpenClaim := { program := "ytlbbldhbggfoaaa", sum := "46a88bcffb19811628f4eee6663c35be4263b16ee62245e5604bc1741fe6ac2e", func := "pub-orthodrome/laws.FnUnit2", spec := "fnUnit2", inPlace := ["math.archTrunc", "math.Float64bits", "math.Float64frombits", "math.archHypot", "math.sqrt"], apart := false, narrowed := true }
def FnUnit2UptoSaid : Prop := fnUnit2UptoRow.holds Try.pinned (OpenSpec.upto fnUnit2Spec)

/-- 'laws.FnUnit3', WHERE WHAT IT READS IS OF BULK AT MOST 1048576: true; the input reads as it did. -/
def fnUnit3UptoRow : OpenClaim := { program := "ytlbbldhbggfoaaa", sum := "46a88bcffb19811628f4eee6663c35be4263b16ee62245e5604bc1741fe6ac2e", func := "pub-orthodrome/laws.FnUnit3", spec := "fnUnit3", inPlace := ["math.archTrunc", "math.Float64bits", "math.Float64frombits", "math.archHypot", "math.sqrt"], apart := false, narrowed := true }
def FnUnit3UptoSaid : Prop := fnUnit3UptoRow.holds Try.pinned (OpenSpec.upto fnUnit3Spec)

/-- 'laws.FnDegenerate2', WHERE WHAT IT READS IS OF BULK AT MOST 1048576: true; the input reads as it did. -/
def fnDegenerate2UptoRow : OpenClaim := { program := "ytlbbldhbggfoaaa", sum := "46a88bcffb19811628f4eee6663c35be4263b16ee62245e5604bc1741fe6ac2e", func := "pub-orthodrome/laws.FnDegenerate2", spec := "fnDegenerate2", inPlace := ["math.archTrunc", "math.Float64bits", "math.Float64frombits", "math.sqrt", "math.archHypot"], apart := false, narrowed := true }
def FnDegenerate2UptoSaid : Prop := fnDegenerate2UptoRow.holds Try.pinned (OpenSpec.upto fnDegenerate2Spec)

/-- 'laws.FnSpaceDistance', WHERE WHAT IT READS IS OF BULK AT MOST 1048576: true; the input reads as it did. -/
def fnSpaceDistanceUptoRow : OpenClaim := { program := "ytlbbldhbggfoaaa", sum := "46a88bcffb19811628f4eee6663c35be4263b16ee62245e5604bc1741fe6ac2e", func := "pub-orthodrome/laws.FnSpaceDistance", spec := "fnSpaceDistance", inPlace := ["math.archTrunc", "math.Float64bits", "math.Float64frombits", "math.sqrt"], apart := false, narrowed := true }
def FnSpaceDistanceUptoSaid : Prop := fnSpaceDistanceUptoRow.holds Try.pinned (OpenSpec.upto fnSpaceDistanceSpec)

/-- 'laws.FnDegenerate3', WHERE WHAT IT READS IS OF BULK AT MOST 1048576: true; the input reads as it did. -/
def fnDegenerate3UptoRow : OpenClaim := { program := "ytlbbldhbggfoaaa", sum := "46a88bcffb19811628f4eee6663c35be4263b16ee62245e5604bc1741fe6ac2e", func := "pub-orthodrome/laws.FnDegenerate3", spec := "fnDegenerate3", inPlace := ["math.archTrunc", "math.Float64bits", "math.Float64frombits", "math.sqrt", "math.archHypot"], apart := false, narrowed := true }
def FnDegenerate3UptoSaid : Prop := fnDegenerate3UptoRow.holds Try.pinned (OpenSpec.upto fnDegenerate3Spec)

/-- 'laws.FnPointLineDistance', WHERE WHAT IT READS IS OF BULK AT MOST 1048576: true; the input reads as it did. -/
def fnPointLineDistanceUptoRow : OpenClaim := { program := "ytlbbldhbggfoaaa", sum := "46a88bcffb19811628f4eee6663c35be4263b16ee62245e5604bc1741fe6ac2e", func := "pub-orthodrome/laws.FnPointLineDistance", spec := "fnPointLineDistance", inPlace := ["math.archTrunc", "math.Float64bits", "math.Float64frombits", "math.sqrt"], apart := false, narrowed := true }
def FnPointLineDistanceUptoSaid : Prop := fnPointLineDistanceUptoRow.holds Try.pinned (OpenSpec.upto fnPointLineDistanceSpec)

/-- 'laws.FnAngleDiff', WHERE WHAT IT READS IS OF BULK AT MOST 1048576: true; the input reads as it did. -/
def fnAngleDiffUptoRow : OpenClaim := { program := "ytlbbldhbggfoaaa", sum := "46a88bcffb19811628f4eee6663c35be4263b16ee62245e5604bc1741fe6ac2e", func := "pub-orthodrome/laws.FnAngleDiff", spec := "fnAngleDiff", inPlace := ["math.Float64bits", "math.Float64frombits"], apart := false, narrowed := true }
def FnAngleDiffUptoSaid : Prop := fnAngleDiffUptoRow.holds Try.pinned (OpenSpec.upto fnAngleDiffSpec)

/-- 'laws.FnPointLinesDistance', WHERE WHAT IT READS IS OF BULK AT MOST 1048576: true; the input reads as it did. -/
def fnPointLinesDistanceUptoRow : OpenClaim := { program := "ytlbbldhbggfoaaa", sum := "46a88bcffb19811628f4eee6663c35be4263b16ee62245e5604bc1741fe6ac2e", func := "pub-orthodrome/laws.FnPointLinesDistance", spec := "fnPointLinesDistance", inPlace := ["math.archTrunc", "math.Float64bits", "math.Float64frombits", "math.sqrt"], unfollowed := true, recurses := true, apart := false, narrowed := true }
def FnPointLinesDistanceUptoSaid : Prop := fnPointLinesDistanceUptoRow.holds Try.pinned (OpenSpec.upto fnPointLinesDistanceSpec)

end Rows
end Go.Proofs.Ytlbbldhbggfoaaa
