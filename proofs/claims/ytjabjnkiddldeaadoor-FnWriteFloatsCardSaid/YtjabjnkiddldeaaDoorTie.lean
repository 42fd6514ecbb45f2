/-
  DERIVED. GIVEN WITH THE SEED: THE PROGRAM's TIES (one call each: nine closed facts by the kernel) AND EACH ROW's TIE, after the 31st guide's Derived/Test/Toyas{Tie, Card}.lean. No idea stands in it: it is a product of the set-up. Laid BY PROGRAM, IN A SANDBOX (cutbox-door.mjs). By AI agents, Wed Nov 11 2026. No macro, syntax, notation, axiom, sorry.
-/
import Derived.Test.YtjabjnkiddldeaaDoorRows
import Derived.LaidByTextLater
import Derived.SevenTiedAt
import Derived.LaidSub
import Derived.LaidOnce
namespace Go.Proofs.YtjabjnkiddldeaaDoor
open Go
set_option maxRecDepth 100000
theorem seatTie1 : Tryd.prog.laidByTextLater [("pub-orthodrome/pub/gonum/mat.ErrRowAccess", Rows.laid_pub_orthodrome_pub_gonum_mat_ErrRowAccess), ("pub-orthodrome/pub/gonum/mat.ErrColAccess", Rows.laid_pub_orthodrome_pub_gonum_mat_ErrColAccess), ("pub-orthodrome/pub/gonum/mat.ErrShape", Rows.laid_pub_orthodrome_pub_gonum_mat_ErrShape), ("pub-orthodrome/pub/gogeom.errIncorrectEnd", Rows.laid_pub_orthodrome_pub_gogeom_errIncorrectEnd), ("pub-orthodrome/pub/gogeom.errLengthStrideMismatch", Rows.laid_pub_orthodrome_pub_gogeom_errLengthStrideMismatch), ("pub-orthodrome/pub/gogeom.errMisalignedEnd", Rows.laid_pub_orthodrome_pub_gogeom_errMisalignedEnd), ("pub-orthodrome/pub/gogeom.errNonEmptyEnds", Rows.laid_pub_orthodrome_pub_gogeom_errNonEmptyEnds), ("pub-orthodrome/pub/gogeom.errNonEmptyEndss", Rows.laid_pub_orthodrome_pub_gogeom_errNonEmptyEndss), ("pub-orthodrome/pub/gogeom.errNonEmptyFlatCoords", Rows.laid_pub_orthodrome_pub_gogeom_errNonEmptyFlatCoords), ("pub-orthodrome/pub/gogeom.errOutOfOrderEnd", Rows.laid_pub_orthodrome_pub_gogeom_errOutOfOrderEnd), ("pub-orthodrome/pub/gogeom.errStrideLayoutMismatch", Rows.laid_pub_orthodrome_pub_gogeom_errStrideLayoutMismatch), ("pub-orthodrome/pub/gonum/spatial/barneshut.planeTooBig", Rows.laid_pub_orthodrome_pub_gonum_spatial_barneshut_planeTooBig), ("pub-orthodrome/pub/gonum/spatial/curve.ErrUnderflow", Rows.laid_pub_orthodrome_pub_gonum_spatial_curve_ErrUnderflow), ("pub-orthodrome/pub/gonum/spatial/curve.ErrOverflow", Rows.laid_pub_orthodrome_pub_gonum_spatial_curve_ErrOverflow), ("io.ErrShortBuffer", Rows.laid_io_ErrShortBuffer), ("io.EOF", Rows.laid_io_EOF), ("io.ErrUnexpectedEOF", Rows.laid_io_ErrUnexpectedEOF)] [.data, .data, .data, .sentinel, .sentinel, .sentinel, .sentinel, .sentinel, .sentinel, .sentinel, .sentinel, .sentinel, .sentinel, .sentinel, .sentinel, .sentinel, .sentinel] true :=
  Program.laidByTextLater_by_one 309 8 2 (by kernel_rfl) (by kernel_rfl) (by kernel_rfl) (by kernel_rfl) (by kernel_rfl) (by kernel_rfl) (fun _ _ => by kernel_rfl)
theorem noOwnUnsafe : Tryd.pinned.checked.prog.headLifts.contains "ownunsafe" = false := by kernel_rfl
theorem tie : Tryd.prog.laidByTextLater [("pub-orthodrome/pub/gonum/mat.ErrRowAccess", Rows.laid_pub_orthodrome_pub_gonum_mat_ErrRowAccess), ("pub-orthodrome/pub/gonum/mat.ErrColAccess", Rows.laid_pub_orthodrome_pub_gonum_mat_ErrColAccess), ("pub-orthodrome/pub/gonum/mat.ErrShape", Rows.laid_pub_orthodrome_pub_gonum_mat_ErrShape)] [.data, .data, .data] true :=
  Program.laidByTextLater.sub seatTie1 ["pub-orthodrome/pub/gonum/mat.ErrRowAccess", "pub-orthodrome/pub/gonum/mat.ErrColAccess", "pub-orthodrome/pub/gonum/mat.ErrShape"] (by kernel_rfl) (by kernel_rfl)
theorem fnMatDetMul_row_tie : Rows.fnMatDetMulRow.laidByTextAt .later Tryd.pinned [.data, .data, .data] true :=
  OpenClaim.laidByTextAt_later rfl rfl tie noOwnUnsafe
theorem fnMatTranspose_row_tie : Rows.fnMatTransposeRow.laidByTextAt .later Tryd.pinned [.data, .data, .data] true :=
  OpenClaim.laidByTextAt_later rfl rfl tie noOwnUnsafe
theorem tie2 : Tryd.prog.laidByTextLater [("io.ErrShortBuffer", Rows.laid_io_ErrShortBuffer), ("io.EOF", Rows.laid_io_EOF), ("io.ErrUnexpectedEOF", Rows.laid_io_ErrUnexpectedEOF)] [.sentinel, .sentinel, .sentinel] true :=
  Program.laidByTextLater.sub seatTie1 ["io.ErrShortBuffer", "io.EOF", "io.ErrUnexpectedEOF"] (by kernel_rfl) (by kernel_rfl)
theorem fnReadFloats_row_tie : Rows.fnReadFloatsRow.laidByTextAt .later Tryd.pinned [.sentinel, .sentinel, .sentinel] true :=
  OpenClaim.laidByTextAt_later rfl rfl tie2 noOwnUnsafe
theorem fnWriteFloats_row_tie : Rows.fnWriteFloatsRow.laidByTextAt .later Tryd.pinned [.sentinel, .sentinel, .sentinel] true :=
  OpenClaim.laidByTextAt_later rfl rfl tie2 noOwnUnsafe
theorem tie3 : Tryd.prog.laidByTextLater [("pub-orthodrome/pub/gonum/spatial/curve.ErrUnderflow", Rows.laid_pub_orthodrome_pub_gonum_spatial_curve_ErrUnderflow), ("pub-orthodrome/pub/gonum/spatial/curve.ErrOverflow", Rows.laid_pub_orthodrome_pub_gonum_spatial_curve_ErrOverflow)] [.sentinel, .sentinel] true :=
  Program.laidByTextLater.sub seatTie1 ["pub-orthodrome/pub/gonum/spatial/curve.ErrUnderflow", "pub-orthodrome/pub/gonum/spatial/curve.ErrOverflow"] (by kernel_rfl) (by kernel_rfl)
theorem fnHilbertCopies_row_tie : Rows.fnHilbertCopiesRow.laidByTextAt .later Tryd.pinned [.sentinel, .sentinel] true :=
  OpenClaim.laidByTextAt_later rfl rfl tie3 noOwnUnsafe
theorem tie4 : Tryd.prog.laidByTextLater [("pub-orthodrome/pub/gogeom.errIncorrectEnd", Rows.laid_pub_orthodrome_pub_gogeom_errIncorrectEnd), ("pub-orthodrome/pub/gogeom.errLengthStrideMismatch", Rows.laid_pub_orthodrome_pub_gogeom_errLengthStrideMismatch), ("pub-orthodrome/pub/gogeom.errMisalignedEnd", Rows.laid_pub_orthodrome_pub_gogeom_errMisalignedEnd), ("pub-orthodrome/pub/gogeom.errNonEmptyEnds", Rows.laid_pub_orthodrome_pub_gogeom_errNonEmptyEnds), ("pub-orthodrome/pub/gogeom.errNonEmptyEndss", Rows.laid_pub_orthodrome_pub_gogeom_errNonEmptyEndss), ("pub-orthodrome/pub/gogeom.errNonEmptyFlatCoords", Rows.laid_pub_orthodrome_pub_gogeom_errNonEmptyFlatCoords), ("pub-orthodrome/pub/gogeom.errOutOfOrderEnd", Rows.laid_pub_orthodrome_pub_gogeom_errOutOfOrderEnd), ("pub-orthodrome/pub/gogeom.errStrideLayoutMismatch", Rows.laid_pub_orthodrome_pub_gogeom_errStrideLayoutMismatch)] [.sentinel, .sentinel, .sentinel, .sentinel, .sentinel, .sentinel, .sentinel, .sentinel] true :=
  Program.laidByTextLater.sub seatTie1 ["pub-orthodrome/pub/gogeom.errIncorrectEnd", "pub-orthodrome/pub/gogeom.errLengthStrideMismatch", "pub-orthodrome/pub/gogeom.errMisalignedEnd", "pub-orthodrome/pub/gogeom.errNonEmptyEnds", "pub-orthodrome/pub/gogeom.errNonEmptyEndss", "pub-orthodrome/pub/gogeom.errNonEmptyFlatCoords", "pub-orthodrome/pub/gogeom.errOutOfOrderEnd", "pub-orthodrome/pub/gogeom.errStrideLayoutMismatch"] (by kernel_rfl) (by kernel_rfl)
theorem fnVerify_row_tie : Rows.fnVerifyRow.laidByTextAt .later Tryd.pinned [.sentinel, .sentinel, .sentinel, .sentinel, .sentinel, .sentinel, .sentinel, .sentinel] true :=
  OpenClaim.laidByTextAt_later rfl rfl tie4 noOwnUnsafe
theorem tie5 : Tryd.prog.laidByTextLater [("pub-orthodrome/pub/gonum/spatial/barneshut.planeTooBig", Rows.laid_pub_orthodrome_pub_gonum_spatial_barneshut_planeTooBig)] [.sentinel] true :=
  Program.laidByTextLater.sub seatTie1 ["pub-orthodrome/pub/gonum/spatial/barneshut.planeTooBig"] (by kernel_rfl) (by kernel_rfl)
theorem fnTiles2_row_tie : Rows.fnTiles2Row.laidByTextAt .later Tryd.pinned [.sentinel] true :=
  OpenClaim.laidByTextAt_later rfl rfl tie5 noOwnUnsafe
theorem fnMatDetMulUpto_row_tie : Rows.fnMatDetMulUptoRow.laidByTextAt .later Tryd.pinned [.data, .data, .data] true :=
  OpenClaim.laidByTextAt_later rfl rfl tie noOwnUnsafe
theorem fnMatTransposeUpto_row_tie : Rows.fnMatTransposeUptoRow.laidByTextAt .later Tryd.pinned [.data, .data, .data] true :=
  OpenClaim.laidByTextAt_later rfl rfl tie noOwnUnsafe
theorem fnReadFloatsUpto_row_tie : Rows.fnReadFloatsUptoRow.laidByTextAt .later Tryd.pinned [.sentinel, .sentinel, .sentinel] true :=
  OpenClaim.laidByTextAt_later rfl rfl tie2 noOwnUnsafe
theorem fnWriteFloatsUpto_row_tie : Rows.fnWriteFloatsUptoRow.laidByTextAt .later Tryd.pinned [.sentinel, .sentinel, .sentinel] true :=
  OpenClaim.laidByTextAt_later rfl rfl tie2 noOwnUnsafe
theorem fnHilbertCopiesUpto_row_tie : Rows.fnHilbertCopiesUptoRow.laidByTextAt .later Tryd.pinned [.sentinel, .sentinel] true :=
  OpenClaim.laidByTextAt_later rfl rfl tie3 noOwnUnsafe
theorem fnVerifyUpto_row_tie : Rows.fnVerifyUptoRow.laidByTextAt .later Tryd.pinned [.sentinel, .sentinel, .sentinel, .sentinel, .sentinel, .sentinel, .sentinel, .sentinel] true :=
  OpenClaim.laidByTextAt_later rfl rfl tie4 noOwnUnsafe
theorem fnTiles2Upto_row_tie : Rows.fnTiles2UptoRow.laidByTextAt .later Tryd.pinned [.sentinel] true :=
  OpenClaim.laidByTextAt_later rfl rfl tie5 noOwnUnsafe
end Go.Proofs.YtjabjnkiddldeaaDoor
