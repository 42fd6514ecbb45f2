/-
  NARROWER THAN 'FOR EVERY INPUT', by the rows' own cells (each row's printed sentence says how): FnEWKBBack: loops, laid · FnWKBCut: loops, laid.
  DERIVED. THE GIVEN ROWS OF THIS SEAT. 2 by the template 'for every input the law returns true; each argument reads behind the call as it read before'; 0 by the template 'total and deterministic' (their statements: YtllnonlmibanfaaGreatDoorTotals.lean).
  GIVEN WITH THE SEED: the statements are not yours to turn. If you find one false, say at which input.
  Laid BY PROGRAM, IN A SANDBOX (cutbox-rows.mjs): the forced cells as the released guide's own fill.sh prints them over the translation d45c55b13e19fe7e… (all of the seat's roots in one cut). By AI agents, Wed Nov 11 2026. No macro, syntax, notation, axiom, sorry.
-/
import Derived.Test.YtllnonlmibanfaaGreatDoorChecked
import GoSem.Claim
import GoSem.ClaimJoined
import GoSem.ClaimMapViews
import Derived.JoinedTies
import Derived.KernelRfl
namespace Go.Proofs.YtllnonlmibanfaaGreatDoor
/- THE CELL 'sum', in the pinned program and in every row, IS THE sha256 OF THE DUMP (.gsa) THAT YtllnonlmibanfaaGreatDoorProg.lean LOADS. Nothing in Lean hashes anything: it is a label: what it is worth is what the hold of that sum in a sandbox is worth. -/
noncomputable def Tryz.pinned : Pinned := { name := "ytllnonlmibanfaagreatdoor", sum := "d45c55b13e19fe7ee6cd1db8f6620a1bb0691a90e69acd7a07161fda9c060a51", checked := Tryz.checked }
namespace Rows
def none {H : Type} : Left H := { results := [], args := [] }

/- WHAT THE LISTED PACKAGE-LEVEL VARIABLES READ AS WHEN THE CALL BEGINS. Each datum BY PROGRAM (the guide's laid-datum.mjs) off the statement by which the dump's own 'gosem.cut.vars' lays the variable. In a bare row this is a premise. The card (YtllnonlmibanfaaGreatDoorCards.lean) ties it to the program's text. -/
def laid_io_ErrShortBuffer {H : Type} : DataW H := .iface "*errors.errorString" (.ptr (.agg [.lit (.string [115, 104, 111, 114, 116, 32, 98, 117, 102, 102, 101, 114])]))
def laid_io_EOF {H : Type} : DataW H := .iface "*errors.errorString" (.ptr (.agg [.lit (.string [69, 79, 70])]))
def laid_io_ErrUnexpectedEOF {H : Type} : DataW H := .iface "*errors.errorString" (.ptr (.agg [.lit (.string [117, 110, 101, 120, 112, 101, 99, 116, 101, 100, 32, 69, 79, 70])]))
def laid_pub_orthodrome_pub_gogeom_encoding_wkbcommon_MaxGeometryElements {H : Type} : DataW H := .agg [.lit (.int .i64 0), .lit (.int .i64 (-1)), .lit (.int .i64 (-1)), .lit (.int .i64 (-1))]

/-- 'laws.FnEWKBBack': WHATEVER THE INPUT: true; the input reads as it did. -/
def fnEWKBBackSpec : ChangeSpec := { name := "fnEWKBBack", fn := fun _ => fun
  | [d1, d2] => { results := [.lit (.bool true)], args := [d1, d2] }
  | _ => none }
def fnEWKBBackRow : OpenClaim := { program := "ytllnonlmibanfaagreatdoor", sum := "d45c55b13e19fe7ee6cd1db8f6620a1bb0691a90e69acd7a07161fda9c060a51", func := "pub-orthodrome/laws.FnEWKBBack", spec := "fnEWKBBack", inPlace := ["math.Float64frombits", "math.Float64bits"], unfollowed := true, recurses := true, named := ["encoding/binary.BigEndian", "encoding/binary.LittleEndian", "pub-orthodrome/pub/gogeom/encoding/wkbcommon.MaxGeometryElements", "io.ErrShortBuffer", "io.EOF", "io.ErrUnexpectedEOF"], loops := true, apart := false, laid := [("io.ErrShortBuffer", laid_io_ErrShortBuffer), ("io.EOF", laid_io_EOF), ("io.ErrUnexpectedEOF", laid_io_ErrUnexpectedEOF), ("pub-orthodrome/pub/gogeom/encoding/wkbcommon.MaxGeometryElements", laid_pub_orthodrome_pub_gogeom_encoding_wkbcommon_MaxGeometryElements)] }
def FnEWKBBackSaid : Prop := fnEWKBBackRow.holds Tryz.pinned (OpenSpec.ofChange fnEWKBBackSpec)

/-- ITS FALSE NEIGHBOUR: 'it returns false'. Refute it at one input. -/
def fnEWKBBackWrong : ChangeSpec := { name := "fnEWKBBack", fn := fun _ => fun
  | [d1, d2] => { results := [.lit (.bool false)], args := [d1, d2] }
  | _ => none }
def FnEWKBBackWrongFalsely : Prop := fnEWKBBackRow.holds Tryz.pinned (OpenSpec.ofChange fnEWKBBackWrong)

/-- 'laws.FnWKBCut': WHATEVER THE INPUT: true; the input reads as it did. -/
def fnWKBCutSpec : ChangeSpec := { name := "fnWKBCut", fn := fun _ => fun
  | [d1, d2, d3] => { results := [.lit (.bool true)], args := [d1, d2, d3] }
  | _ => none }
def fnWKBCutRow : OpenClaim := { program := "ytllnonlmibanfaagreatdoor", sum := "d45c55b13e19fe7ee6cd1db8f6620a1bb0691a90e69acd7a07161fda9c060a51", func := "pub-orthodrome/laws.FnWKBCut", spec := "fnWKBCut", inPlace := ["math.Float64frombits", "math.Float64bits"], unfollowed := true, recurses := true, named := ["encoding/binary.BigEndian", "encoding/binary.LittleEndian", "pub-orthodrome/pub/gogeom/encoding/wkbcommon.MaxGeometryElements", "io.ErrShortBuffer", "io.EOF", "io.ErrUnexpectedEOF"], loops := true, apart := false, laid := [("io.ErrShortBuffer", laid_io_ErrShortBuffer), ("io.EOF", laid_io_EOF), ("io.ErrUnexpectedEOF", laid_io_ErrUnexpectedEOF), ("pub-orthodrome/pub/gogeom/encoding/wkbcommon.MaxGeometryElements", laid_pub_orthodrome_pub_gogeom_encoding_wkbcommon_MaxGeometryElements)] }
def FnWKBCutSaid : Prop := fnWKBCutRow.holds Tryz.pinned (OpenSpec.ofChange fnWKBCutSpec)

/-- ITS FALSE NEIGHBOUR: 'it returns false'. Refute it at one input. -/
def fnWKBCutWrong : ChangeSpec := { name := "fnWKBCut", fn := fun _ => fun
  | [d1, d2, d3] => { results := [.lit (.bool false)], args := [d1, d2, d3] }
  | _ => none }
def FnWKBCutWrongFalsely : Prop := fnWKBCutRow.holds Tryz.pinned (OpenSpec.ofChange fnWKBCutWrong)

/- THE SECOND FORM. 'bulk': how many values and letters a reading holds, each counted each time it is reached (what is shared counts as often as it is met; a slice's spare places count too). A statement '..UptoSaid' is the law's where the arguments, and the package variables that the reading takes, are together of bulk at most 1048576: NARROWER than '..Said'. Prove '..Said' where nothing that the law and all that it calls make is longer than what came in: it says more and counts as full. Else prove '..UptoSaid'. A law counts once. -/
mutual
def uptoBulk {H : Type} : DataW H → Nat
  | .lit (.string bytes) => bytes.length + 1
  | .lit _ => 1
  | .nil => 1
  | .ptr d => uptoBulk d + 1
  | .slice elems spare => uptoBulkAll elems + uptoBulkAll spare + 1
  | .agg parts => uptoBulkAll parts + 1
  | .iface _ d => uptoBulk d + 1
  | .map entries => uptoBulkEntries entries + 1
  | .held _ => 1
def uptoBulkAll {H : Type} : List (DataW H) → Nat
  | [] => 0
  | d :: r => uptoBulk d + uptoBulkAll r
def uptoBulkEntries {H : Type} : List (Lit × DataW H) → Nat
  | [] => 0
  | x :: r => uptoBulkEntry x + uptoBulkEntries r
def uptoBulkEntry {H : Type} : Lit × DataW H → Nat
  | (.string bytes, d) => bytes.length + uptoBulk d + 1
  | (_, d) => uptoBulk d + 1
 end
def uptoSmall : (H : Type) → List (DataW H) → Bool := fun _ ds => decide (uptoBulkAll ds ≤ 1048576)
def OpenSpec.upto (s : _root_.Go.ChangeSpec) : _root_.Go.OpenSpec := { _root_.Go.OpenSpec.ofChange s with cond := some uptoSmall }

/-- 'laws.FnEWKBBack', WHERE WHAT IT READS IS OF BULK AT MOST 1048576: true; the input reads as it did. -/
def fnEWKBBackUptoRow : OpenClaim := { program := "ytllnonlmibanfaagreatdoor", sum := "d45c55b13e19fe7ee6cd1db8f6620a1bb0691a90e69acd7a07161fda9c060a51", func := "pub-orthodrome/laws.FnEWKBBack", spec := "fnEWKBBack", inPlace := ["math.Float64frombits", "math.Float64bits"], unfollowed := true, recurses := true, named := ["encoding/binary.BigEndian", "encoding/binary.LittleEndian", "pub-orthodrome/pub/gogeom/encoding/wkbcommon.MaxGeometryElements", "io.ErrShortBuffer", "io.EOF", "io.ErrUnexpectedEOF"], loops := true, apart := false, laid := [("io.ErrShortBuffer", laid_io_ErrShortBuffer), ("io.EOF", laid_io_EOF), ("io.ErrUnexpectedEOF", laid_io_ErrUnexpectedEOF), ("pub-orthodrome/pub/gogeom/encoding/wkbcommon.MaxGeometryElements", laid_pub_orthodrome_pub_gogeom_encoding_wkbcommon_MaxGeometryElements)], narrowed := true }
def FnEWKBBackUptoSaid : Prop := fnEWKBBackUptoRow.holds Tryz.pinned (OpenSpec.upto fnEWKBBackSpec)

/-- 'laws.FnWKBCut', WHERE WHAT IT READS IS OF BULK AT MOST 1048576: true; the input reads as it did. -/
def fnWKBCutUptoRow : OpenClaim := { program := "ytllnonlmibanfaagreatdoor", sum := "d45c55b13e19fe7ee6cd1db8f6620a1bb0691a90e69acd7a07161fda9c060a51", func := "pub-orthodrome/laws.FnWKBCut", spec := "fnWKBCut", inPlace := ["math.Float64frombits", "math.Float64bits"], unfollowed := true, recurses := true, named := ["encoding/binary.BigEndian", "encoding/binary.LittleEndian", "pub-orthodrome/pub/gogeom/encoding/wkbcommon.MaxGeometryElements", "io.ErrShortBuffer", "io.EOF", "io.ErrUnexpectedEOF"], loops := true, apart := false, laid := [("io.ErrShortBuffer", laid_io_ErrShortBuffer), ("io.EOF", laid_io_EOF), ("io.ErrUnexpectedEOF", laid_io_ErrUnexpectedEOF), ("pub-orthodrome/pub/gogeom/encoding/wkbcommon.MaxGeometryElements", laid_pub_orthodrome_pub_gogeom_encoding_wkbcommon_MaxGeometryElements)], narrowed := true }
def FnWKBCutUptoSaid : Prop := fnWKBCutUptoRow.holds Tryz.pinned (OpenSpec.upto fnWKBCutSpec)

end Rows
end Go.Proofs.YtllnonlmibanfaaGreatDoor
