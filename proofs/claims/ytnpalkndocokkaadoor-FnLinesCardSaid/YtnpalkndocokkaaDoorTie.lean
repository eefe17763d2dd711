/-
  DERIVED. GIVEN WITH THE SEED: THE PROGRAM's TIES (one call each: nine closed facts by the kernel) AND EACH ROW's TIE, after the 31st guide's Derived/Test/Toyas{Tie, Card}.lean. No idea stands in it: it is a product of the set-up. Laid BY PROGRAM, IN A SANDBOX (cutbox-door.mjs). By AI agents, Wed Nov 11 2026. No macro, syntax, notation, axiom, sorry.
-/
import Derived.Test.YtnpalkndocokkaaDoorRows
import Derived.LaidByTextLater
import Derived.SevenTiedAt
import Derived.LaidSub
import Derived.LaidOnce
namespace Go.Proofs.YtnpalkndocokkaaDoor
open Go
set_option maxRecDepth 100000
theorem seatTie1 : Tryd.prog.laidByTextLater [("io.EOF", Rows.laid_io_EOF), ("io.ErrNoProgress", Rows.laid_io_ErrNoProgress), ("loop.example/pub-g03135/pub/gobufio.ErrInvalidUnreadByte", Rows.laid_loop_example_pub_g03135_pub_gobufio_ErrInvalidUnreadByte), ("loop.example/pub-g03135/pub/gobufio.ErrInvalidUnreadRune", Rows.laid_loop_example_pub_g03135_pub_gobufio_ErrInvalidUnreadRune), ("loop.example/pub-g03135/pub/gobufio.ErrBufferFull", Rows.laid_loop_example_pub_g03135_pub_gobufio_ErrBufferFull), ("loop.example/pub-g03135/pub/gobufio.ErrNegativeCount", Rows.laid_loop_example_pub_g03135_pub_gobufio_ErrNegativeCount), ("loop.example/pub-g03135/pub/gobufio.errNegativeRead", Rows.laid_loop_example_pub_g03135_pub_gobufio_errNegativeRead), ("loop.example/pub-g03135/pub/gobufio.ErrTooLong", Rows.laid_loop_example_pub_g03135_pub_gobufio_ErrTooLong)] [.sentinel, .sentinel, .sentinel, .sentinel, .sentinel, .sentinel, .sentinel, .sentinel] true :=
  Program.laidByTextLater_by_one 161 8 2 (by kernel_rfl) (by kernel_rfl) (by kernel_rfl) (by kernel_rfl) (by kernel_rfl) (by kernel_rfl) (fun _ _ => by kernel_rfl)
theorem noOwnUnsafe : Tryd.pinned.checked.prog.headLifts.contains "ownunsafe" = false := by kernel_rfl
theorem tie : Tryd.prog.laidByTextLater [("io.EOF", Rows.laid_io_EOF), ("io.ErrNoProgress", Rows.laid_io_ErrNoProgress), ("loop.example/pub-g03135/pub/gobufio.ErrInvalidUnreadByte", Rows.laid_loop_example_pub_g03135_pub_gobufio_ErrInvalidUnreadByte), ("loop.example/pub-g03135/pub/gobufio.ErrInvalidUnreadRune", Rows.laid_loop_example_pub_g03135_pub_gobufio_ErrInvalidUnreadRune), ("loop.example/pub-g03135/pub/gobufio.ErrBufferFull", Rows.laid_loop_example_pub_g03135_pub_gobufio_ErrBufferFull), ("loop.example/pub-g03135/pub/gobufio.ErrNegativeCount", Rows.laid_loop_example_pub_g03135_pub_gobufio_ErrNegativeCount), ("loop.example/pub-g03135/pub/gobufio.errNegativeRead", Rows.laid_loop_example_pub_g03135_pub_gobufio_errNegativeRead), ("loop.example/pub-g03135/pub/gobufio.ErrTooLong", Rows.laid_loop_example_pub_g03135_pub_gobufio_ErrTooLong)] [.sentinel, .sentinel, .sentinel, .sentinel, .sentinel, .sentinel, .sentinel, .sentinel] true :=
  Program.laidByTextLater.sub seatTie1 ["io.EOF", "io.ErrNoProgress", "loop.example/pub-g03135/pub/gobufio.ErrInvalidUnreadByte", "loop.example/pub-g03135/pub/gobufio.ErrInvalidUnreadRune", "loop.example/pub-g03135/pub/gobufio.ErrBufferFull", "loop.example/pub-g03135/pub/gobufio.ErrNegativeCount", "loop.example/pub-g03135/pub/gobufio.errNegativeRead", "loop.example/pub-g03135/pub/gobufio.ErrTooLong"] (by kernel_rfl) (by kernel_rfl)
theorem fnBytes_row_tie : Rows.fnBytesRow.laidByTextAt .later Tryd.pinned [.sentinel, .sentinel, .sentinel, .sentinel, .sentinel, .sentinel, .sentinel, .sentinel] true :=
  OpenClaim.laidByTextAt_later rfl rfl tie noOwnUnsafe
theorem fnPeeked_row_tie : Rows.fnPeekedRow.laidByTextAt .later Tryd.pinned [.sentinel, .sentinel, .sentinel, .sentinel, .sentinel, .sentinel, .sentinel, .sentinel] true :=
  OpenClaim.laidByTextAt_later rfl rfl tie noOwnUnsafe
theorem fnDiscarded_row_tie : Rows.fnDiscardedRow.laidByTextAt .later Tryd.pinned [.sentinel, .sentinel, .sentinel, .sentinel, .sentinel, .sentinel, .sentinel, .sentinel] true :=
  OpenClaim.laidByTextAt_later rfl rfl tie noOwnUnsafe
theorem fnSlices_row_tie : Rows.fnSlicesRow.laidByTextAt .later Tryd.pinned [.sentinel, .sentinel, .sentinel, .sentinel, .sentinel, .sentinel, .sentinel, .sentinel] true :=
  OpenClaim.laidByTextAt_later rfl rfl tie noOwnUnsafe
theorem fnParts_row_tie : Rows.fnPartsRow.laidByTextAt .later Tryd.pinned [.sentinel, .sentinel, .sentinel, .sentinel, .sentinel, .sentinel, .sentinel, .sentinel] true :=
  OpenClaim.laidByTextAt_later rfl rfl tie noOwnUnsafe
theorem fnLines_row_tie : Rows.fnLinesRow.laidByTextAt .later Tryd.pinned [.sentinel, .sentinel, .sentinel, .sentinel, .sentinel, .sentinel, .sentinel, .sentinel] true :=
  OpenClaim.laidByTextAt_later rfl rfl tie noOwnUnsafe
theorem fnTexts_row_tie : Rows.fnTextsRow.laidByTextAt .later Tryd.pinned [.sentinel, .sentinel, .sentinel, .sentinel, .sentinel, .sentinel, .sentinel, .sentinel] true :=
  OpenClaim.laidByTextAt_later rfl rfl tie noOwnUnsafe
theorem fnBytesUpto_row_tie : Rows.fnBytesUptoRow.laidByTextAt .later Tryd.pinned [.sentinel, .sentinel, .sentinel, .sentinel, .sentinel, .sentinel, .sentinel, .sentinel] true :=
  OpenClaim.laidByTextAt_later rfl rfl tie noOwnUnsafe
theorem fnPeekedUpto_row_tie : Rows.fnPeekedUptoRow.laidByTextAt .later Tryd.pinned [.sentinel, .sentinel, .sentinel, .sentinel, .sentinel, .sentinel, .sentinel, .sentinel] true :=
  OpenClaim.laidByTextAt_later rfl rfl tie noOwnUnsafe
theorem fnDiscardedUpto_row_tie : Rows.fnDiscardedUptoRow.laidByTextAt .later Tryd.pinned [.sentinel, .sentinel, .sentinel, .sentinel, .sentinel, .sentinel, .sentinel, .sentinel] true :=
  OpenClaim.laidByTextAt_later rfl rfl tie noOwnUnsafe
theorem fnSlicesUpto_row_tie : Rows.fnSlicesUptoRow.laidByTextAt .later Tryd.pinned [.sentinel, .sentinel, .sentinel, .sentinel, .sentinel, .sentinel, .sentinel, .sentinel] true :=
  OpenClaim.laidByTextAt_later rfl rfl tie noOwnUnsafe
theorem fnPartsUpto_row_tie : Rows.fnPartsUptoRow.laidByTextAt .later Tryd.pinned [.sentinel, .sentinel, .sentinel, .sentinel, .sentinel, .sentinel, .sentinel, .sentinel] true :=
  OpenClaim.laidByTextAt_later rfl rfl tie noOwnUnsafe
theorem fnLinesUpto_row_tie : Rows.fnLinesUptoRow.laidByTextAt .later Tryd.pinned [.sentinel, .sentinel, .sentinel, .sentinel, .sentinel, .sentinel, .sentinel, .sentinel] true :=
  OpenClaim.laidByTextAt_later rfl rfl tie noOwnUnsafe
theorem fnTextsUpto_row_tie : Rows.fnTextsUptoRow.laidByTextAt .later Tryd.pinned [.sentinel, .sentinel, .sentinel, .sentinel, .sentinel, .sentinel, .sentinel, .sentinel] true :=
  OpenClaim.laidByTextAt_later rfl rfl tie noOwnUnsafe
end Go.Proofs.YtnpalkndocokkaaDoor
