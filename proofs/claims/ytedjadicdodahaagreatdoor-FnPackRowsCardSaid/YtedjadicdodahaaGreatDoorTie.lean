/-
  DERIVED. GIVEN WITH THE SEED: THE PROGRAM's TIES (one call each: nine closed facts by the kernel) AND EACH ROW's TIE, after the 31st guide's Derived/Test/Toyas{Tie, Card}.lean. No idea stands in it: it is a product of the set-up. Laid BY PROGRAM, IN A SANDBOX (cutbox-door.mjs). By AI agents, Wed Nov 11 2026. No macro, syntax, notation, axiom, sorry.
-/
import Derived.Test.YtedjadicdodahaaGreatDoorRows
import Derived.LaidByTextLater
import Derived.SevenTiedAt
import Derived.LaidSub
import Derived.LaidOnce
namespace Go.Proofs.YtedjadicdodahaaGreatDoor
open Go
set_option maxRecDepth 100000
theorem seatTie1 : Tryz.prog.laidByTextLater [("io.ErrShortWrite", Rows.laid_io_ErrShortWrite), ("io.errInvalidWrite", Rows.laid_io_errInvalidWrite), ("io.ErrShortBuffer", Rows.laid_io_ErrShortBuffer), ("io.EOF", Rows.laid_io_EOF), ("io.ErrUnexpectedEOF", Rows.laid_io_ErrUnexpectedEOF), ("bytes.ErrTooLarge", Rows.laid_bytes_ErrTooLarge), ("loop.example/pub-g01454/pub/pkgbits.overflow", Rows.laid_loop_example_pub_g01454_pub_pkgbits_overflow), ("loop.example/pub-g01454/pub/pkgbits.introduced", Rows.laid_loop_example_pub_g01454_pub_pkgbits_introduced), ("loop.example/pub-g01454/pub/pkgbits.removed", Rows.laid_loop_example_pub_g01454_pub_pkgbits_removed)] [.sentinel, .sentinel, .sentinel, .sentinel, .sentinel, .sentinel, .sentinel, .data, .data] true :=
  Program.laidByTextLater_by_one 176 8 65 (by kernel_rfl) (by kernel_rfl) (by kernel_rfl) (by kernel_rfl) (by kernel_rfl) (by kernel_rfl) (fun _ _ => by kernel_rfl)
theorem noOwnUnsafe : Tryz.pinned.checked.prog.headLifts.contains "ownunsafe" = false := by kernel_rfl
theorem tie : Tryz.prog.laidByTextLater [("io.ErrShortWrite", Rows.laid_io_ErrShortWrite), ("io.errInvalidWrite", Rows.laid_io_errInvalidWrite), ("io.ErrShortBuffer", Rows.laid_io_ErrShortBuffer), ("io.EOF", Rows.laid_io_EOF), ("io.ErrUnexpectedEOF", Rows.laid_io_ErrUnexpectedEOF), ("bytes.ErrTooLarge", Rows.laid_bytes_ErrTooLarge), ("loop.example/pub-g01454/pub/pkgbits.overflow", Rows.laid_loop_example_pub_g01454_pub_pkgbits_overflow), ("loop.example/pub-g01454/pub/pkgbits.introduced", Rows.laid_loop_example_pub_g01454_pub_pkgbits_introduced), ("loop.example/pub-g01454/pub/pkgbits.removed", Rows.laid_loop_example_pub_g01454_pub_pkgbits_removed)] [.sentinel, .sentinel, .sentinel, .sentinel, .sentinel, .sentinel, .sentinel, .data, .data] true :=
  Program.laidByTextLater.sub seatTie1 ["io.ErrShortWrite", "io.errInvalidWrite", "io.ErrShortBuffer", "io.EOF", "io.ErrUnexpectedEOF", "bytes.ErrTooLarge", "loop.example/pub-g01454/pub/pkgbits.overflow", "loop.example/pub-g01454/pub/pkgbits.introduced", "loop.example/pub-g01454/pub/pkgbits.removed"] (by kernel_rfl) (by kernel_rfl)
theorem fnPackVersion_row_tie : Rows.fnPackVersionRow.laidByTextAt .later Tryz.pinned [.sentinel, .sentinel, .sentinel, .sentinel, .sentinel, .sentinel, .sentinel, .data, .data] true :=
  OpenClaim.laidByTextAt_later rfl rfl tie noOwnUnsafe
theorem fnPackBack_row_tie : Rows.fnPackBackRow.laidByTextAt .later Tryz.pinned [.sentinel, .sentinel, .sentinel, .sentinel, .sentinel, .sentinel, .sentinel, .data, .data] true :=
  OpenClaim.laidByTextAt_later rfl rfl tie noOwnUnsafe
theorem fnPackOne_row_tie : Rows.fnPackOneRow.laidByTextAt .later Tryz.pinned [.sentinel, .sentinel, .sentinel, .sentinel, .sentinel, .sentinel, .sentinel, .data, .data] true :=
  OpenClaim.laidByTextAt_later rfl rfl tie noOwnUnsafe
theorem tie2 : Tryz.prog.laidByTextLater [("io.ErrShortWrite", Rows.laid_io_ErrShortWrite), ("io.errInvalidWrite", Rows.laid_io_errInvalidWrite), ("io.ErrShortBuffer", Rows.laid_io_ErrShortBuffer), ("io.EOF", Rows.laid_io_EOF), ("io.ErrUnexpectedEOF", Rows.laid_io_ErrUnexpectedEOF), ("bytes.ErrTooLarge", Rows.laid_bytes_ErrTooLarge), ("loop.example/pub-g01454/pub/pkgbits.introduced", Rows.laid_loop_example_pub_g01454_pub_pkgbits_introduced), ("loop.example/pub-g01454/pub/pkgbits.removed", Rows.laid_loop_example_pub_g01454_pub_pkgbits_removed)] [.sentinel, .sentinel, .sentinel, .sentinel, .sentinel, .sentinel, .data, .data] true :=
  Program.laidByTextLater.sub seatTie1 ["io.ErrShortWrite", "io.errInvalidWrite", "io.ErrShortBuffer", "io.EOF", "io.ErrUnexpectedEOF", "bytes.ErrTooLarge", "loop.example/pub-g01454/pub/pkgbits.introduced", "loop.example/pub-g01454/pub/pkgbits.removed"] (by kernel_rfl) (by kernel_rfl)
theorem fnPackFacts_row_tie : Rows.fnPackFactsRow.laidByTextAt .later Tryz.pinned [.sentinel, .sentinel, .sentinel, .sentinel, .sentinel, .sentinel, .data, .data] true :=
  OpenClaim.laidByTextAt_later rfl rfl tie2 noOwnUnsafe
theorem fnPackAlone_row_tie : Rows.fnPackAloneRow.laidByTextAt .later Tryz.pinned [.sentinel, .sentinel, .sentinel, .sentinel, .sentinel, .sentinel, .data, .data] true :=
  OpenClaim.laidByTextAt_later rfl rfl tie2 noOwnUnsafe
theorem fnPackRows_row_tie : Rows.fnPackRowsRow.laidByTextAt .later Tryz.pinned [.sentinel, .sentinel, .sentinel, .sentinel, .sentinel, .sentinel, .data, .data] true :=
  OpenClaim.laidByTextAt_later rfl rfl tie2 noOwnUnsafe
theorem fnPackCounts_row_tie : Rows.fnPackCountsRow.laidByTextAt .later Tryz.pinned [.sentinel, .sentinel, .sentinel, .sentinel, .sentinel, .sentinel, .data, .data] true :=
  OpenClaim.laidByTextAt_later rfl rfl tie2 noOwnUnsafe
theorem fnPackVersionUpto_row_tie : Rows.fnPackVersionUptoRow.laidByTextAt .later Tryz.pinned [.sentinel, .sentinel, .sentinel, .sentinel, .sentinel, .sentinel, .sentinel, .data, .data] true :=
  OpenClaim.laidByTextAt_later rfl rfl tie noOwnUnsafe
theorem fnPackBackUpto_row_tie : Rows.fnPackBackUptoRow.laidByTextAt .later Tryz.pinned [.sentinel, .sentinel, .sentinel, .sentinel, .sentinel, .sentinel, .sentinel, .data, .data] true :=
  OpenClaim.laidByTextAt_later rfl rfl tie noOwnUnsafe
theorem fnPackOneUpto_row_tie : Rows.fnPackOneUptoRow.laidByTextAt .later Tryz.pinned [.sentinel, .sentinel, .sentinel, .sentinel, .sentinel, .sentinel, .sentinel, .data, .data] true :=
  OpenClaim.laidByTextAt_later rfl rfl tie noOwnUnsafe
theorem fnPackFactsUpto_row_tie : Rows.fnPackFactsUptoRow.laidByTextAt .later Tryz.pinned [.sentinel, .sentinel, .sentinel, .sentinel, .sentinel, .sentinel, .data, .data] true :=
  OpenClaim.laidByTextAt_later rfl rfl tie2 noOwnUnsafe
theorem fnPackAloneUpto_row_tie : Rows.fnPackAloneUptoRow.laidByTextAt .later Tryz.pinned [.sentinel, .sentinel, .sentinel, .sentinel, .sentinel, .sentinel, .data, .data] true :=
  OpenClaim.laidByTextAt_later rfl rfl tie2 noOwnUnsafe
theorem fnPackRowsUpto_row_tie : Rows.fnPackRowsUptoRow.laidByTextAt .later Tryz.pinned [.sentinel, .sentinel, .sentinel, .sentinel, .sentinel, .sentinel, .data, .data] true :=
  OpenClaim.laidByTextAt_later rfl rfl tie2 noOwnUnsafe
theorem fnPackCountsUpto_row_tie : Rows.fnPackCountsUptoRow.laidByTextAt .later Tryz.pinned [.sentinel, .sentinel, .sentinel, .sentinel, .sentinel, .sentinel, .data, .data] true :=
  OpenClaim.laidByTextAt_later rfl rfl tie2 noOwnUnsafe
end Go.Proofs.YtedjadicdodahaaGreatDoor
