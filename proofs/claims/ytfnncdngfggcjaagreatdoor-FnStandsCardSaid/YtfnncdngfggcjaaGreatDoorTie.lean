/-
  DERIVED. GIVEN WITH THE SEED: THE PROGRAM's TIES (one call each: nine closed facts by the kernel) AND EACH ROW's TIE, after the 31st guide's Derived/Test/Toyas{Tie, Card}.lean. No idea stands in it: it is a product of the set-up. Laid BY PROGRAM, IN A SANDBOX (cutbox-door.mjs). By AI agents, Wed Nov 11 2026. No macro, syntax, notation, axiom, sorry.
-/
import Derived.Test.YtfnncdngfggcjaaGreatDoorRows
import Derived.LaidByTextLater
import Derived.SevenTiedAt
import Derived.LaidSub
import Derived.LaidOnce
namespace Go.Proofs.YtfnncdngfggcjaaGreatDoor
open Go
set_option maxRecDepth 100000
theorem seatTie1 : Tryz.prog.laidByTextLater [("math/bits.deBruijn32tab", Rows.laid_math_bits_deBruijn32tab), ("math/bits.deBruijn64tab", Rows.laid_math_bits_deBruijn64tab), ("io.EOF", Rows.laid_io_EOF), ("strings.asciiSpace", Rows.laid_strings_asciiSpace), ("bufio.ErrBufferFull", Rows.laid_bufio_ErrBufferFull)] [.data, .data, .sentinel, .data, .sentinel] true :=
  Program.laidByTextLater_by_one 281 8 257 (by kernel_rfl) (by kernel_rfl) (by kernel_rfl) (by kernel_rfl) (by kernel_rfl) (by kernel_rfl) (fun _ _ => by kernel_rfl)
theorem noOwnUnsafe : Tryz.pinned.checked.prog.headLifts.contains "ownunsafe" = false := by kernel_rfl
theorem tie : Tryz.prog.laidByTextLater [("math/bits.deBruijn32tab", Rows.laid_math_bits_deBruijn32tab), ("math/bits.deBruijn64tab", Rows.laid_math_bits_deBruijn64tab)] [.data, .data] true :=
  Program.laidByTextLater.sub seatTie1 ["math/bits.deBruijn32tab", "math/bits.deBruijn64tab"] (by kernel_rfl) (by kernel_rfl)
theorem fnNames_row_tie : Rows.fnNamesRow.laidByTextAt .later Tryz.pinned [.data, .data] true :=
  OpenClaim.laidByTextAt_later rfl rfl tie noOwnUnsafe
theorem fnGraves_row_tie : Rows.fnGravesRow.laidByTextAt .later Tryz.pinned [.data, .data] true :=
  OpenClaim.laidByTextAt_later rfl rfl tie noOwnUnsafe
theorem fnLoad_row_tie : Rows.fnLoadRow.laidByTextAt .later Tryz.pinned [.data, .data] true :=
  OpenClaim.laidByTextAt_later rfl rfl tie noOwnUnsafe
theorem fnSmall_row_tie : Rows.fnSmallRow.laidByTextAt .later Tryz.pinned [.data, .data] true :=
  OpenClaim.laidByTextAt_later rfl rfl tie noOwnUnsafe
theorem tie2 : Tryz.prog.laidByTextLater [("math/bits.deBruijn32tab", Rows.laid_math_bits_deBruijn32tab), ("math/bits.deBruijn64tab", Rows.laid_math_bits_deBruijn64tab), ("io.EOF", Rows.laid_io_EOF), ("strings.asciiSpace", Rows.laid_strings_asciiSpace), ("bufio.ErrBufferFull", Rows.laid_bufio_ErrBufferFull)] [.data, .data, .sentinel, .data, .sentinel] true :=
  Program.laidByTextLater.sub seatTie1 ["math/bits.deBruijn32tab", "math/bits.deBruijn64tab", "io.EOF", "strings.asciiSpace", "bufio.ErrBufferFull"] (by kernel_rfl) (by kernel_rfl)
theorem fnParent_row_tie : Rows.fnParentRow.laidByTextAt .later Tryz.pinned [.data, .data, .sentinel, .data, .sentinel] true :=
  OpenClaim.laidByTextAt_later rfl rfl tie2 noOwnUnsafe
theorem fnNumbered_row_tie : Rows.fnNumberedRow.laidByTextAt .later Tryz.pinned [.data, .data, .sentinel, .data, .sentinel] true :=
  OpenClaim.laidByTextAt_later rfl rfl tie2 noOwnUnsafe
theorem fnTwice_row_tie : Rows.fnTwiceRow.laidByTextAt .later Tryz.pinned [.data, .data, .sentinel, .data, .sentinel] true :=
  OpenClaim.laidByTextAt_later rfl rfl tie2 noOwnUnsafe
theorem fnStands_row_tie : Rows.fnStandsRow.laidByTextAt .later Tryz.pinned [.data, .data, .sentinel, .data, .sentinel] true :=
  OpenClaim.laidByTextAt_later rfl rfl tie2 noOwnUnsafe
theorem fnStrings_row_tie : Rows.fnStringsRow.laidByTextAt .later Tryz.pinned [.data, .data, .sentinel, .data, .sentinel] true :=
  OpenClaim.laidByTextAt_later rfl rfl tie2 noOwnUnsafe
theorem tie3 : Tryz.prog.laidByTextLater [("math/bits.deBruijn32tab", Rows.laid_math_bits_deBruijn32tab), ("math/bits.deBruijn64tab", Rows.laid_math_bits_deBruijn64tab), ("io.EOF", Rows.laid_io_EOF), ("bufio.ErrBufferFull", Rows.laid_bufio_ErrBufferFull)] [.data, .data, .sentinel, .sentinel] true :=
  Program.laidByTextLater.sub seatTie1 ["math/bits.deBruijn32tab", "math/bits.deBruijn64tab", "io.EOF", "bufio.ErrBufferFull"] (by kernel_rfl) (by kernel_rfl)
theorem fnChildren_row_tie : Rows.fnChildrenRow.laidByTextAt .later Tryz.pinned [.data, .data, .sentinel, .sentinel] true :=
  OpenClaim.laidByTextAt_later rfl rfl tie3 noOwnUnsafe
theorem fnTruth_row_tie : Rows.fnTruthRow.laidByTextAt .later Tryz.pinned [.data, .data, .sentinel, .sentinel] true :=
  OpenClaim.laidByTextAt_later rfl rfl tie3 noOwnUnsafe
theorem fnIn_row_tie : Rows.fnInRow.laidByTextAt .later Tryz.pinned [.data, .data, .sentinel, .sentinel] true :=
  OpenClaim.laidByTextAt_later rfl rfl tie3 noOwnUnsafe
theorem fnNamesUpto_row_tie : Rows.fnNamesUptoRow.laidByTextAt .later Tryz.pinned [.data, .data] true :=
  OpenClaim.laidByTextAt_later rfl rfl tie noOwnUnsafe
theorem fnParentUpto_row_tie : Rows.fnParentUptoRow.laidByTextAt .later Tryz.pinned [.data, .data, .sentinel, .data, .sentinel] true :=
  OpenClaim.laidByTextAt_later rfl rfl tie2 noOwnUnsafe
theorem fnChildrenUpto_row_tie : Rows.fnChildrenUptoRow.laidByTextAt .later Tryz.pinned [.data, .data, .sentinel, .sentinel] true :=
  OpenClaim.laidByTextAt_later rfl rfl tie3 noOwnUnsafe
theorem fnGravesUpto_row_tie : Rows.fnGravesUptoRow.laidByTextAt .later Tryz.pinned [.data, .data] true :=
  OpenClaim.laidByTextAt_later rfl rfl tie noOwnUnsafe
theorem fnLoadUpto_row_tie : Rows.fnLoadUptoRow.laidByTextAt .later Tryz.pinned [.data, .data] true :=
  OpenClaim.laidByTextAt_later rfl rfl tie noOwnUnsafe
theorem fnNumberedUpto_row_tie : Rows.fnNumberedUptoRow.laidByTextAt .later Tryz.pinned [.data, .data, .sentinel, .data, .sentinel] true :=
  OpenClaim.laidByTextAt_later rfl rfl tie2 noOwnUnsafe
theorem fnSmallUpto_row_tie : Rows.fnSmallUptoRow.laidByTextAt .later Tryz.pinned [.data, .data] true :=
  OpenClaim.laidByTextAt_later rfl rfl tie noOwnUnsafe
theorem fnTwiceUpto_row_tie : Rows.fnTwiceUptoRow.laidByTextAt .later Tryz.pinned [.data, .data, .sentinel, .data, .sentinel] true :=
  OpenClaim.laidByTextAt_later rfl rfl tie2 noOwnUnsafe
theorem fnStandsUpto_row_tie : Rows.fnStandsUptoRow.laidByTextAt .later Tryz.pinned [.data, .data, .sentinel, .data, .sentinel] true :=
  OpenClaim.laidByTextAt_later rfl rfl tie2 noOwnUnsafe
theorem fnTruthUpto_row_tie : Rows.fnTruthUptoRow.laidByTextAt .later Tryz.pinned [.data, .data, .sentinel, .sentinel] true :=
  OpenClaim.laidByTextAt_later rfl rfl tie3 noOwnUnsafe
theorem fnInUpto_row_tie : Rows.fnInUptoRow.laidByTextAt .later Tryz.pinned [.data, .data, .sentinel, .sentinel] true :=
  OpenClaim.laidByTextAt_later rfl rfl tie3 noOwnUnsafe
theorem fnStringsUpto_row_tie : Rows.fnStringsUptoRow.laidByTextAt .later Tryz.pinned [.data, .data, .sentinel, .data, .sentinel] true :=
  OpenClaim.laidByTextAt_later rfl rfl tie2 noOwnUnsafe
end Go.Proofs.YtfnncdngfggcjaaGreatDoor
