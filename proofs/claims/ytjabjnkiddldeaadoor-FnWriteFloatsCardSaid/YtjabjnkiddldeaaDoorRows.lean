/-
  NARROWER THAN 'FOR EVERY INPUT', by the rows' own cells (each row's printed sentence says how): FnMatDetMul: laid · FnMatTranspose: laid · FnReadFloats: laid · FnWriteFloats: laid · FnHilbertCopies: laid · FnVerify: loops, laid · FnTiles2: laid.
  DERIVED. THE GIVEN ROWS OF THIS SEAT. 7 by the template 'for every input the law returns true; each argument reads behind the call as it read before'; 0 by the template 'total and deterministic' (their statements: YtjabjnkiddldeaaDoorTotals.lean).
  GIVEN WITH THE SEED: the statements are not yours to turn. If you find one false, say at which input.
  Laid BY PROGRAM, IN A SANDBOX (cutbox-rows.mjs): the forced cells as the released guide's own fill.sh prints them over the translation 9434e7739b6b33b2… (all of the seat's roots in one cut). By AI agents, Wed Nov 11 2026. No macro, syntax, notation, axiom, sorry.
-/
import Derived.Test.YtjabjnkiddldeaaDoorChecked
import GoSem.Claim
import GoSem.ClaimJoined
import GoSem.ClaimMapViews
import Derived.JoinedTies
import Derived.KernelRfl
namespace Go.Proofs.YtjabjnkiddldeaaDoor
/- THE CELL 'sum', in the pinned program and in every row, IS THE sha256 OF THE DUMP (.gsa) THAT YtjabjnkiddldeaaDoorProg.lean LOADS. Nothing in Lean hashes anything: it is a label: what it is worth is what the hold of that sum in a sandbox is worth. -/
noncomputable def Tryd.pinned : Pinned := { name := "ytjabjnkiddldeaadoor", sum := "9434e7739b6b33b24b43a3a676a03c85d0e75271b953c404501b7b1c03ac1fd5", checked := Tryd.checked }
namespace Rows
def none {H : Type} : Left H := { results := [], args := [] }

/- WHAT THE LISTED PACKAGE-LEVEL VARIABLES READ AS WHEN THE CALL BEGINS. Each datum BY PROGRAM (the guide's laid-datum.mjs) off the statement by which the dump's own 'gosem.cut.vars' lays the variable. In a bare row this is a premise. The card (YtjabjnkiddldeaaDoorCards.lean) ties it to the program's text. -/
def laid_pub_orthodrome_pub_gonum_mat_ErrRowAccess {H : Type} : DataW H := .agg [.lit (.string [109, 97, 116, 58, 32, 114, 111, 119, 32, 105, 110, 100, 101, 120, 32, 111, 117, 116, 32, 111, 102, 32, 114, 97, 110, 103, 101])]
def laid_pub_orthodrome_pub_gonum_mat_ErrColAccess {H : Type} : DataW H := .agg [.lit (.string [109, 97, 116, 58, 32, 99, 111, 108, 117, 109, 110, 32, 105, 110, 100, 101, 120, 32, 111, 117, 116, 32, 111, 102, 32, 114, 97, 110, 103, 101])]
def laid_pub_orthodrome_pub_gonum_mat_ErrShape {H : Type} : DataW H := .agg [.lit (.string [109, 97, 116, 58, 32, 100, 105, 109, 101, 110, 115, 105, 111, 110, 32, 109, 105, 115, 109, 97, 116, 99, 104])]
def laid_io_ErrShortBuffer {H : Type} : DataW H := .iface "*errors.errorString" (.ptr (.agg [.lit (.string [115, 104, 111, 114, 116, 32, 98, 117, 102, 102, 101, 114])]))
def laid_io_EOF {H : Type} : DataW H := .iface "*errors.errorString" (.ptr (.agg [.lit (.string [69, 79, 70])]))
def laid_io_ErrUnexpectedEOF {H : Type} : DataW H := .iface "*errors.errorString" (.ptr (.agg [.lit (.string [117, 110, 101, 120, 112, 101, 99, 116, 101, 100, 32, 69, 79, 70])]))
def laid_pub_orthodrome_pub_gonum_spatial_curve_ErrUnderflow {H : Type} : DataW H := .iface "*errors.errorString" (.ptr (.agg [.lit (.string [111, 114, 100, 101, 114, 32, 105, 115, 32, 108, 101, 115, 115, 32, 116, 104, 97, 110, 32, 49])]))
def laid_pub_orthodrome_pub_gonum_spatial_curve_ErrOverflow {H : Type} : DataW H := .iface "*errors.errorString" (.ptr (.agg [.lit (.string [111, 118, 101, 114, 102, 108, 111, 119, 32, 105, 110, 116])]))
def laid_pub_orthodrome_pub_gogeom_errIncorrectEnd {H : Type} : DataW H := .iface "*errors.errorString" (.ptr (.agg [.lit (.string [103, 101, 111, 109, 58, 32, 105, 110, 99, 111, 114, 114, 101, 99, 116, 32, 101, 110, 100])]))
def laid_pub_orthodrome_pub_gogeom_errLengthStrideMismatch {H : Type} : DataW H := .iface "*errors.errorString" (.ptr (.agg [.lit (.string [103, 101, 111, 109, 58, 32, 108, 101, 110, 103, 116, 104, 47, 115, 116, 114, 105, 100, 101, 32, 109, 105, 115, 109, 97, 116, 99, 104])]))
def laid_pub_orthodrome_pub_gogeom_errMisalignedEnd {H : Type} : DataW H := .iface "*errors.errorString" (.ptr (.agg [.lit (.string [103, 101, 111, 109, 58, 32, 109, 105, 115, 97, 108, 105, 103, 110, 101, 100, 32, 101, 110, 100])]))
def laid_pub_orthodrome_pub_gogeom_errNonEmptyEnds {H : Type} : DataW H := .iface "*errors.errorString" (.ptr (.agg [.lit (.string [103, 101, 111, 109, 58, 32, 110, 111, 110, 45, 101, 109, 112, 116, 121, 32, 101, 110, 100, 115])]))
def laid_pub_orthodrome_pub_gogeom_errNonEmptyEndss {H : Type} : DataW H := .iface "*errors.errorString" (.ptr (.agg [.lit (.string [103, 101, 111, 109, 58, 32, 110, 111, 110, 45, 101, 109, 112, 116, 121, 32, 101, 110, 100, 115, 115])]))
def laid_pub_orthodrome_pub_gogeom_errNonEmptyFlatCoords {H : Type} : DataW H := .iface "*errors.errorString" (.ptr (.agg [.lit (.string [103, 101, 111, 109, 58, 32, 110, 111, 110, 45, 101, 109, 112, 116, 121, 32, 102, 108, 97, 116, 67, 111, 111, 114, 100, 115])]))
def laid_pub_orthodrome_pub_gogeom_errOutOfOrderEnd {H : Type} : DataW H := .iface "*errors.errorString" (.ptr (.agg [.lit (.string [103, 101, 111, 109, 58, 32, 111, 117, 116, 45, 111, 102, 45, 111, 114, 100, 101, 114, 32, 101, 110, 100])]))
def laid_pub_orthodrome_pub_gogeom_errStrideLayoutMismatch {H : Type} : DataW H := .iface "*errors.errorString" (.ptr (.agg [.lit (.string [103, 101, 111, 109, 58, 32, 115, 116, 114, 105, 100, 101, 47, 108, 97, 121, 111, 117, 116, 32, 109, 105, 115, 109, 97, 116, 99, 104])]))
def laid_pub_orthodrome_pub_gonum_spatial_barneshut_planeTooBig {H : Type} : DataW H := .iface "*errors.errorString" (.ptr (.agg [.lit (.string [98, 97, 114, 110, 101, 115, 104, 117, 116, 58, 32, 112, 108, 97, 110, 101, 32, 116, 111, 111, 32, 98, 105, 103])]))

/-- 'laws.FnMatDetMul': WHATEVER THE INPUT: true; the input reads as it did. -/
def fnMatDetMulSpec : ChangeSpec := { name := "fnMatDetMul", fn := fun _ => fun
  | [d1, d2] => { results := [.lit (.bool true)], args := [d1, d2] }
  | _ => none }
def fnMatDetMulRow : OpenClaim := { program := "ytjabjnkiddldeaadoor", sum := "9434e7739b6b33b24b43a3a676a03c85d0e75271b953c404501b7b1c03ac1fd5", func := "pub-orthodrome/laws.FnMatDetMul", spec := "fnMatDetMul", inPlace := ["math.archTrunc", "math.Float64bits", "math.Float64frombits"], unfollowed := true, recurses := true, named := ["pub-orthodrome/pub/gonum/mat.ErrShape", "pub-orthodrome/pub/gonum/mat.ErrRowAccess", "pub-orthodrome/pub/gonum/mat.ErrColAccess"], apart := false, laid := [("pub-orthodrome/pub/gonum/mat.ErrRowAccess", laid_pub_orthodrome_pub_gonum_mat_ErrRowAccess), ("pub-orthodrome/pub/gonum/mat.ErrColAccess", laid_pub_orthodrome_pub_gonum_mat_ErrColAccess), ("pub-orthodrome/pub/gonum/mat.ErrShape", laid_pub_orthodrome_pub_gonum_mat_ErrShape)] }
def FnMatDetMulSaid : Prop := fnMatDetMulRow.holds Tryd.pinned (OpenSpec.ofChange fnMatDetMulSpec)

/-- ITS FALSE NEIGHBOUR: 'it returns false'. Refute it at one input. -/
def fnMatDetMulWrong : ChangeSpec := { name := "fnMatDetMul", fn := fun _ => fun
  | [d1, d2] => { results := [.lit (.bool false)], args := [d1, d2] }
  | _ => none }
def FnMatDetMulWrongFalsely : Prop := fnMatDetMulRow.holds Tryd.pinned (OpenSpec.ofChange fnMatDetMulWrong)

/-- 'laws.FnMatTranspose': WHATEVER THE INPUT: true; the input reads as it did. -/
def fnMatTransposeSpec : ChangeSpec := { name := "fnMatTranspose", fn := fun _ => fun
  | [d1, d2] => { results := [.lit (.bool true)], args := [d1, d2] }
  | _ => none }
def fnMatTransposeRow : OpenClaim := { program := "ytjabjnkiddldeaadoor", sum := "9434e7739b6b33b24b43a3a676a03c85d0e75271b953c404501b7b1c03ac1fd5", func := "pub-orthodrome/laws.FnMatTranspose", spec := "fnMatTranspose", inPlace := ["math.archTrunc", "math.Float64bits", "math.Float64frombits"], unfollowed := true, recurses := true, named := ["pub-orthodrome/pub/gonum/mat.ErrShape", "pub-orthodrome/pub/gonum/mat.ErrRowAccess", "pub-orthodrome/pub/gonum/mat.ErrColAccess"], apart := false, laid := [("pub-orthodrome/pub/gonum/mat.ErrRowAccess", laid_pub_orthodrome_pub_gonum_mat_ErrRowAccess), ("pub-orthodrome/pub/gonum/mat.ErrColAccess", laid_pub_orthodrome_pub_gonum_mat_ErrColAccess), ("pub-orthodrome/pub/gonum/mat.ErrShape", laid_pub_orthodrome_pub_gonum_mat_ErrShape)] }
def FnMatTransposeSaid : Prop := fnMatTransposeRow.holds Tryd.pinned (OpenSpec.ofChange fnMatTransposeSpec)

/-- ITS FALSE NEIGHBOUR: 'it returns false'. Refute it at one input. -/
def fnMatTransposeWrong : ChangeSpec := { name := "fnMatTranspose", fn := fun _ => fun
  | [d1, d2] => { results := [.lit (.bool false)], args := [d1, d2] }
  | _ => none }
def FnMatTransposeWrongFalsely : Prop := fnMatTransposeRow.holds Tryd.pinned (OpenSpec.ofChange fnMatTransposeWrong)

/-- 'laws.FnReadFloats': WHATEVER THE INPUT: true; the input reads as it did. -/
def fnReadFloatsSpec : ChangeSpec := { name := "fnReadFloats", fn := fun _ => fun
  | [d1, d2, d3] => { results := [.lit (.bool true)], args := [d1, d2, d3] }
  | _ => none }
def fnReadFloatsRow : OpenClaim := { program := "ytjabjnkiddldeaadoor", sum := "9434e7739b6b33b24b43a3a676a03c85d0e75271b953c404501b7b1c03ac1fd5", func := "pub-orthodrome/laws.FnReadFloats", spec := "fnReadFloats", inPlace := ["math.Float64frombits", "math.Float64bits"], unfollowed := true, recurses := true, named := ["encoding/binary.BigEndian", "encoding/binary.LittleEndian", "io.ErrShortBuffer", "io.EOF", "io.ErrUnexpectedEOF"], apart := false, laid := [("io.ErrShortBuffer", laid_io_ErrShortBuffer), ("io.EOF", laid_io_EOF), ("io.ErrUnexpectedEOF", laid_io_ErrUnexpectedEOF)] }
def FnReadFloatsSaid : Prop := fnReadFloatsRow.holds Tryd.pinned (OpenSpec.ofChange fnReadFloatsSpec)

/-- ITS FALSE NEIGHBOUR: 'it returns false'. Refute it at one input. -/
def fnReadFloatsWrong : ChangeSpec := { name := "fnReadFloats", fn := fun _ => fun
  | [d1, d2, d3] => { results := [.lit (.bool false)], args := [d1, d2, d3] }
  | _ => none }
def FnReadFloatsWrongFalsely : Prop := fnReadFloatsRow.holds Tryd.pinned (OpenSpec.ofChange fnReadFloatsWrong)

/-- 'laws.FnWriteFloats': WHATEVER THE INPUT: true; the input reads as it did. -/
def fnWriteFloatsSpec : ChangeSpec := { name := "fnWriteFloats", fn := fun _ => fun
  | [d1, d2] => { results := [.lit (.bool true)], args := [d1, d2] }
  | _ => none }
def fnWriteFloatsRow : OpenClaim := { program := "ytjabjnkiddldeaadoor", sum := "9434e7739b6b33b24b43a3a676a03c85d0e75271b953c404501b7b1c03ac1fd5", func := "pub-orthodrome/laws.FnWriteFloats", spec := "fnWriteFloats", inPlace := ["math.Float64bits", "math.Float64frombits"], unfollowed := true, recurses := true, named := ["encoding/binary.BigEndian", "encoding/binary.LittleEndian", "io.ErrShortBuffer", "io.EOF", "io.ErrUnexpectedEOF"], apart := false, laid := [("io.ErrShortBuffer", laid_io_ErrShortBuffer), ("io.EOF", laid_io_EOF), ("io.ErrUnexpectedEOF", laid_io_ErrUnexpectedEOF)] }
def FnWriteFloatsSaid : Prop := fnWriteFloatsRow.holds Tryd.pinned (OpenSpec.ofChange fnWriteFloatsSpec)

/-- ITS FALSE NEIGHBOUR: 'it returns false'. Refute it at one input. -/
def fnWriteFloatsWrong : ChangeSpec := { name := "fnWriteFloats", fn := fun _ => fun
  | [d1, d2] => { results := [.lit (.bool false)], args := [d1, d2] }
  | _ => none }
def FnWriteFloatsWrongFalsely : Prop := fnWriteFloatsRow.holds Tryd.pinned (OpenSpec.ofChange fnWriteFloatsWrong)

/-- 'laws.FnHilbertCopies': WHATEVER THE INPUT: true; the input reads as it did. -/
def fnHilbertCopiesSpec : ChangeSpec := { name := "fnHilbertCopies", fn := fun _ => fun
  | [d1, d2, d3] => { results := [.lit (.bool true)], args := [d1, d2, d3] }
  | _ => none }
def fnHilbertCopiesRow : OpenClaim := { program := "ytjabjnkiddldeaadoor", sum := "9434e7739b6b33b24b43a3a676a03c85d0e75271b953c404501b7b1c03ac1fd5", func := "pub-orthodrome/laws.FnHilbertCopies", spec := "fnHilbertCopies", unfollowed := true, recurses := true, named := ["pub-orthodrome/pub/gonum/spatial/curve.ErrUnderflow", "pub-orthodrome/pub/gonum/spatial/curve.ErrOverflow"], apart := false, laid := [("pub-orthodrome/pub/gonum/spatial/curve.ErrUnderflow", laid_pub_orthodrome_pub_gonum_spatial_curve_ErrUnderflow), ("pub-orthodrome/pub/gonum/spatial/curve.ErrOverflow", laid_pub_orthodrome_pub_gonum_spatial_curve_ErrOverflow)] }
def FnHilbertCopiesSaid : Prop := fnHilbertCopiesRow.holds Tryd.pinned (OpenSpec.ofChange fnHilbertCopiesSpec)

/-- ITS FALSE NEIGHBOUR: 'it returns false'. Refute it at one input. -/
def fnHilbertCopiesWrong : ChangeSpec := { name := "fnHilbertCopies", fn := fun _ => fun
  | [d1, d2, d3] => { results := [.lit (.bool false)], args := [d1, d2, d3] }
  | _ => none }
def FnHilbertCopiesWrongFalsely : Prop := fnHilbertCopiesRow.holds Tryd.pinned (OpenSpec.ofChange fnHilbertCopiesWrong)

/-- 'laws.FnVerify': WHATEVER THE INPUT: true; the input reads as it did. -/
def fnVerifySpec : ChangeSpec := { name := "fnVerify", fn := fun _ => fun
  | [d] => { results := [.lit (.bool true)], args := [d] }
  | _ => none }
def fnVerifyRow : OpenClaim := { program := "ytjabjnkiddldeaadoor", sum := "9434e7739b6b33b24b43a3a676a03c85d0e75271b953c404501b7b1c03ac1fd5", func := "pub-orthodrome/laws.FnVerify", spec := "fnVerify", unfollowed := true, recurses := true, named := ["pub-orthodrome/pub/gogeom.errStrideLayoutMismatch", "pub-orthodrome/pub/gogeom.errNonEmptyFlatCoords", "pub-orthodrome/pub/gogeom.errLengthStrideMismatch", "pub-orthodrome/pub/gogeom.errNonEmptyEnds", "pub-orthodrome/pub/gogeom.errMisalignedEnd", "pub-orthodrome/pub/gogeom.errOutOfOrderEnd", "pub-orthodrome/pub/gogeom.errIncorrectEnd", "pub-orthodrome/pub/gogeom.errNonEmptyEndss"], loops := true, apart := false, laid := [("pub-orthodrome/pub/gogeom.errIncorrectEnd", laid_pub_orthodrome_pub_gogeom_errIncorrectEnd), ("pub-orthodrome/pub/gogeom.errLengthStrideMismatch", laid_pub_orthodrome_pub_gogeom_errLengthStrideMismatch), ("pub-orthodrome/pub/gogeom.errMisalignedEnd", laid_pub_orthodrome_pub_gogeom_errMisalignedEnd), ("pub-orthodrome/pub/gogeom.errNonEmptyEnds", laid_pub_orthodrome_pub_gogeom_errNonEmptyEnds), ("pub-orthodrome/pub/gogeom.errNonEmptyEndss", laid_pub_orthodrome_pub_gogeom_errNonEmptyEndss), ("pub-orthodrome/pub/gogeom.errNonEmptyFlatCoords", laid_pub_orthodrome_pub_gogeom_errNonEmptyFlatCoords), ("pub-orthodrome/pub/gogeom.errOutOfOrderEnd", laid_pub_orthodrome_pub_gogeom_errOutOfOrderEnd), ("pub-orthodrome/pub/gogeom.errStrideLayoutMismatch", laid_pub_orthodrome_pub_gogeom_errStrideLayoutMismatch)] }
def FnVerifySaid : Prop := fnVerifyRow.holds Tryd.pinned (OpenSpec.ofChange fnVerifySpec)

/-- ITS FALSE NEIGHBOUR: 'it returns false'. Refute it at one input. -/
def fnVerifyWrong : ChangeSpec := { name := "fnVerify", fn := fun _ => fun
  | [d] => { results := [.lit (.bool false)], args := [d] }
  | _ => none }
def FnVerifyWrongFalsely : Prop := fnVerifyRow.holds Tryd.pinned (OpenSpec.ofChange fnVerifyWrong)

/-- 'laws.FnTiles2': WHATEVER THE INPUT: true; the input reads as it did. -/
def fnTiles2Spec : ChangeSpec := { name := "fnTiles2", fn := fun _ => fun
  | [d] => { results := [.lit (.bool true)], args := [d] }
  | _ => none }
def fnTiles2Row : OpenClaim := { program := "ytjabjnkiddldeaadoor", sum := "9434e7739b6b33b24b43a3a676a03c85d0e75271b953c404501b7b1c03ac1fd5", func := "pub-orthodrome/laws.FnTiles2", spec := "fnTiles2", inPlace := ["math.archTrunc", "math.Float64bits", "math.Float64frombits"], unfollowed := true, recurses := true, named := ["pub-orthodrome/pub/gonum/spatial/barneshut.planeTooBig"], apart := false, laid := [("pub-orthodrome/pub/gonum/spatial/barneshut.planeTooBig", laid_pub_orthodrome_pub_gonum_spatial_barneshut_planeTooBig)] }
def FnTiles2Said : Prop := fnTiles2Row.holds Tryd.pinned (OpenSpec.ofChange fnTiles2Spec)

/-- ITS FALSE NEIGHBOUR: 'it returns false'. Refute it at one input. -/
def fnTiles2Wrong : ChangeSpec := { name := "fnTiles2", fn := fun _ => fun
  | [d] => { results := [.lit (.bool false)], args := [d] }
  | _ => none }
def FnTiles2WrongFalsely : Prop := fnTiles2Row.holds Tryd.pinned (OpenSpec.ofChange fnTiles2Wrong)

/- THE SECOND FORM. 'bulk': how many values and letters a reading holds, each counted each time it is reached (what is shared counts as often as it is met; a slice's spare places count too). A statement '..UptoSaid' is the law's where the arguments, and the package variables that the reading takes, are together of bulk at most 1048576: NARROWER than '..Said'. Prove '..Said' where nothing that the law and all that it calls make is longer than what came in: it says more and counts as full. Else prove '..UptoSaid'. A law counts once. -/
mutual
def uptoBulk {H : Type} : DataW H → Nat
  | .lit (.string bytes) => bytes.length + 1
  | .lit _ => 1
  | .nil => 1
  | .ptr d => uptoBulk d + 1
  | .slice elems spare => uptoBulkAll elems + uptoBulkAll spare + 1
  | .agg parts => uptoBulkAll parts + 1
  | .iface _ d => uptoBulk d + 1
  | .map entries => uptoBulkEntries entries + 1
  | .held _ => 1
def uptoBulkAll {H : Type} : List (DataW H) → Nat
  | [] => 0
  | d :: r => uptoBulk d + uptoBulkAll r
def uptoBulkEntries {H : Type} : List (Lit × DataW H) → Nat
  | [] => 0
  | x :: r => uptoBulkEntry x + uptoBulkEntries r
def uptoBulkEntry {H : Type} : Lit × DataW H → Nat
  | (.string bytes, d) => bytes.length + uptoBulk d + 1
  | (_, d) => uptoBulk d + 1
 end
def uptoSmall : (H : Type) → List (DataW H) → Bool := fun _ ds => decide (uptoBulkAll ds ≤ 1048576)
def OpenSpec.upto (s : _root_.Go.ChangeSpec) : _root_.Go.OpenSpec := { _root_.Go.OpenSpec.ofChange s with cond := some uptoSmall }

/-- 'laws.FnMatDetMul', WHERE WHAT IT READS IS OF BULK AT MOST 1048576: true; the input reads as it did. -/
def fnMatDetMulUptoRow : OpenClaim := { program := "ytjabjnkiddldeaadoor", sum := "9434e7739b6b33b24b43a3a676a03c85d0e75271b953c404501b7b1c03ac1fd5", func := "pub-orthodrome/laws.FnMatDetMul", spec := "fnMatDetMul", inPlace := ["math.archTrunc", "math.Float64bits", "math.Float64frombits"], unfollowed := true, recurses := true, named := ["pub-orthodrome/pub/gonum/mat.ErrShape", "pub-orthodrome/pub/gonum/mat.ErrRowAccess", "pub-orthodrome/pub/gonum/mat.ErrColAccess"], apart := false, laid := [("pub-orthodrome/pub/gonum/mat.ErrRowAccess", laid_pub_orthodrome_pub_gonum_mat_ErrRowAccess), ("pub-orthodrome/pub/gonum/mat.ErrColAccess", laid_pub_orthodrome_pub_gonum_mat_ErrColAccess), ("pub-orthodrome/pub/gonum/mat.ErrShape", laid_pub_orthodrome_pub_gonum_mat_ErrShape)], narrowed := true }
def FnMatDetMulUptoSaid : Prop := fnMatDetMulUptoRow.holds Tryd.pinned (OpenSpec.upto fnMatDetMulSpec)

/-- 'laws.FnMatTranspose', WHERE WHAT IT READS IS OF BULK AT MOST 1048576: true; the input reads as it did. -/
def fnMatTransposeUptoRow : OpenClaim := { program := "ytjabjnkiddldeaadoor", sum := "9434e7739b6b33b24b43a3a676a03c85d0e75271b953c404501b7b1c03ac1fd5", func := "pub-orthodrome/laws.FnMatTranspose", spec := "fnMatTranspose", inPlace := ["math.archTrunc", "math.Float64bits", "math.Float64frombits"], unfollowed := true, recurses := true, named := ["pub-orthodrome/pub/gonum/mat.ErrShape", "pub-orthodrome/pub/gonum/mat.ErrRowAccess", "pub-orthodrome/pub/gonum/mat.ErrColAccess"], apart := false, laid := [("pub-orthodrome/pub/gonum/mat.ErrRowAccess", laid_pub_orthodrome_pub_gonum_mat_ErrRowAccess), ("pub-orthodrome/pub/gonum/mat.ErrColAccess", laid_pub_orthodrome_pub_gonum_mat_ErrColAccess), ("pub-orthodrome/pub/gonum/mat.ErrShape", laid_pub_orthodrome_pub_gonum_mat_ErrShape)], narrowed := true }
def FnMatTransposeUptoSaid : Prop := fnMatTransposeUptoRow.holds Tryd.pinned (OpenSpec.upto fnMatTransposeSpec)

/-- 'laws.FnReadFloats', WHERE WHAT IT READS IS OF BULK AT MOST 1048576: true; the input reads as it did. -/
def fnReadFloatsUptoRow : OpenClaim := { program := "ytjabjnkiddldeaadoor", sum := "9434e7739b6b33b24b43a3a676a03c85d0e75271b953c404501b7b1c03ac1fd5", func := "pub-orthodrome/laws.FnReadFloats", spec := "fnReadFloats", inPlace := ["math.Float64frombits", "math.Float64bits"], unfollowed := true, recurses := true, named := ["encoding/binary.BigEndian", "encoding/binary.LittleEndian", "io.ErrShortBuffer", "io.EOF", "io.ErrUnexpectedEOF"], apart := false, laid := [("io.ErrShortBuffer", laid_io_ErrShortBuffer), ("io.EOF", laid_io_EOF), ("io.ErrUnexpectedEOF", laid_io_ErrUnexpectedEOF)], narrowed := true }
def FnReadFloatsUptoSaid : Prop := fnReadFloatsUptoRow.holds Tryd.pinned (OpenSpec.upto fnReadFloatsSpec)

/-- 'laws.FnWriteFloats', WHERE WHAT IT READS IS OF BULK AT MOST 1048576: true; the input reads as it did. -/
def fnWriteFloatsUptoRow : OpenClaim := { program := "ytjabjnkiddldeaadoor", sum := "9434e7739b6b33b24b43a3a676a03c85d0e75271b953c404501b7b1c03ac1fd5", func := "pub-orthodrome/laws.FnWriteFloats", spec := "fnWriteFloats", inPlace := ["math.Float64bits", "math.Float64frombits"], unfollowed := true, recurses := true, named := ["encoding/binary.BigEndian", "encoding/binary.LittleEndian", "io.ErrShortBuffer", "io.EOF", "io.ErrUnexpectedEOF"], apart := false, laid := [("io.ErrShortBuffer", laid_io_ErrShortBuffer), ("io.EOF", laid_io_EOF), ("io.ErrUnexpectedEOF", laid_io_ErrUnexpectedEOF)], narrowed := true }
def FnWriteFloatsUptoSaid : Prop := fnWriteFloatsUptoRow.holds Tryd.pinned (OpenSpec.upto fnWriteFloatsSpec)

/-- 'laws.FnHilbertCopies', WHERE WHAT IT READS IS OF BULK AT MOST 1048576: true; the input reads as it did. -/
def fnHilbertCopiesUptoRow : OpenClaim := { program := "ytjabjnkiddldeaadoor", sum := "9434e7739b6b33b24b43a3a676a03c85d0e75271b953c404501b7b1c03ac1fd5", func := "pub-orthodrome/laws.FnHilbertCopies", spec := "fnHilbertCopies", unfollowed := true, recurses := true, named := ["pub-orthodrome/pub/gonum/spatial/curve.ErrUnderflow", "pub-orthodrome/pub/gonum/spatial/curve.ErrOverflow"], apart := false, laid := [("pub-orthodrome/pub/gonum/spatial/curve.ErrUnderflow", laid_pub_orthodrome_pub_gonum_spatial_curve_ErrUnderflow), ("pub-orthodrome/pub/gonum/spatial/curve.ErrOverflow", laid_pub_orthodrome_pub_gonum_spatial_curve_ErrOverflow)], narrowed := true }
def FnHilbertCopiesUptoSaid : Prop := fnHilbertCopiesUptoRow.holds Tryd.pinned (OpenSpec.upto fnHilbertCopiesSpec)

/-- 'laws.FnVerify', WHERE WHAT IT READS IS OF BULK AT MOST 1048576: true; the input reads as it did. -/
def fnVerifyUptoRow : OpenClaim := { program := "ytjabjnkiddldeaadoor", sum := "9434e7739b6b33b24b43a3a676a03c85d0e75271b953c404501b7b1c03ac1fd5", func := "pub-orthodrome/laws.FnVerify", spec := "fnVerify", unfollowed := true, recurses := true, named := ["pub-orthodrome/pub/gogeom.errStrideLayoutMismatch", "pub-orthodrome/pub/gogeom.errNonEmptyFlatCoords", "pub-orthodrome/pub/gogeom.errLengthStrideMismatch", "pub-orthodrome/pub/gogeom.errNonEmptyEnds", "pub-orthodrome/pub/gogeom.errMisalignedEnd", "pub-orthodrome/pub/gogeom.errOutOfOrderEnd", "pub-orthodrome/pub/gogeom.errIncorrectEnd", "pub-orthodrome/pub/gogeom.errNonEmptyEndss"], loops := true, apart := false, laid := [("pub-orthodrome/pub/gogeom.errIncorrectEnd", laid_pub_orthodrome_pub_gogeom_errIncorrectEnd), ("pub-orthodrome/pub/gogeom.errLengthStrideMismatch", laid_pub_orthodrome_pub_gogeom_errLengthStrideMismatch), ("pub-orthodrome/pub/gogeom.errMisalignedEnd", laid_pub_orthodrome_pub_gogeom_errMisalignedEnd), ("pub-orthodrome/pub/gogeom.errNonEmptyEnds", laid_pub_orthodrome_pub_gogeom_errNonEmptyEnds), ("pub-orthodrome/pub/gogeom.errNonEmptyEndss", laid_pub_orthodrome_pub_gogeom_errNonEmptyEndss), ("pub-orthodrome/pub/gogeom.errNonEmptyFlatCoords", laid_pub_orthodrome_pub_gogeom_errNonEmptyFlatCoords), ("pub-orthodrome/pub/gogeom.errOutOfOrderEnd", laid_pub_orthodrome_pub_gogeom_errOutOfOrderEnd), ("pub-orthodrome/pub/gogeom.errStrideLayoutMismatch", laid_pub_orthodrome_pub_gogeom_errStrideLayoutMismatch)], narrowed := true }
def FnVerifyUptoSaid : Prop := fnVerifyUptoRow.holds Tryd.pinned (OpenSpec.upto fnVerifySpec)

/-- 'laws.FnTiles2', WHERE WHAT IT READS IS OF BULK AT MOST 1048576: true; the input reads as it did. -/
def fnTiles2UptoRow : OpenClaim := { program := "ytjabjnkiddldeaadoor", sum := "9434e7739b6b33b24b43a3a676a03c85d0e75271b953c404501b7b1c03ac1fd5", func := "pub-orthodrome/laws.FnTiles2", spec := "fnTiles2", inPlace := ["math.archTrunc", "math.Float64bits", "math.Float64frombits"], unfollowed := true, recurses := true, named := ["pub-orthodrome/pub/gonum/spatial/barneshut.planeTooBig"], apart := false, laid := [("pub-orthodrome/pub/gonum/spatial/barneshut.planeTooBig", laid_pub_orthodrome_pub_gonum_spatial_barneshut_planeTooBig)], narrowed := true }
def FnTiles2UptoSaid : Prop := fnTiles2UptoRow.holds Tryd.pinned (OpenSpec.upto fnTiles2Spec)

end Rows
end Go.Proofs.YtjabjnkiddldeaaDoor
