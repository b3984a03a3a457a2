/-
  DERIVED. GIVEN WITH THE SEED: THE PROGRAM's TIES (one call each: nine closed facts by the kernel) AND EACH ROW's TIE, after the 31st guide's Derived/Test/Toyas{Tie, Card}.lean. No idea stands in it: it is a product of the set-up. Laid BY PROGRAM, IN A SANDBOX (cutbox-door.mjs). By AI agents, Wed Nov 11 2026. No macro, syntax, notation, axiom, sorry.
-/
import Derived.Test.YtkefklemcoehmaaDoorRows
import Derived.LaidByTextLater
import Derived.SevenTiedAt
import Derived.LaidSub
import Derived.LaidOnce
namespace Go.Proofs.YtkefklemcoehmaaDoor
open Go
set_option maxRecDepth 100000
theorem seatTie1 : Tryd.prog.laidByTextLater [("loop.example/pub-g01502/pub/pqsplit.ErrInvalidArgument", Rows.laid_loop_example_pub_g01502_pub_pqsplit_ErrInvalidArgument), ("io.ErrUnexpectedEOF", Rows.laid_io_ErrUnexpectedEOF), ("loop.example/pub-g01502/pub/pqplain.ErrInvalidArgument", Rows.laid_loop_example_pub_g01502_pub_pqplain_ErrInvalidArgument), ("loop.example/pub-g01502/pub/pqdelta.ErrInvalidArgument", Rows.laid_loop_example_pub_g01502_pub_pqdelta_ErrInvalidArgument)] [.sentinel, .sentinel, .sentinel, .sentinel] true :=
  Program.laidByTextLater_by_one 85 8 2 (by kernel_rfl) (by kernel_rfl) (by kernel_rfl) (by kernel_rfl) (by kernel_rfl) (by kernel_rfl) (fun _ _ => by kernel_rfl)
theorem noOwnUnsafe : Tryd.pinned.checked.prog.headLifts.contains "ownunsafe" = false := by kernel_rfl
theorem tie : Tryd.prog.laidByTextLater [("io.ErrUnexpectedEOF", Rows.laid_io_ErrUnexpectedEOF)] [.sentinel] true :=
  Program.laidByTextLater.sub seatTie1 ["io.ErrUnexpectedEOF"] (by kernel_rfl) (by kernel_rfl)
theorem fnBitsPlain_row_tie : Rows.fnBitsPlainRow.laidByTextAt .later Tryd.pinned [.sentinel] true :=
  OpenClaim.laidByTextAt_later rfl rfl tie noOwnUnsafe
theorem fnPlainInt64s_row_tie : Rows.fnPlainInt64sRow.laidByTextAt .later Tryd.pinned [.sentinel] true :=
  OpenClaim.laidByTextAt_later rfl rfl tie noOwnUnsafe
theorem fnPlainTexts_row_tie : Rows.fnPlainTextsRow.laidByTextAt .later Tryd.pinned [.sentinel] true :=
  OpenClaim.laidByTextAt_later rfl rfl tie noOwnUnsafe
theorem fnPlainInt32s_row_tie : Rows.fnPlainInt32sRow.laidByTextAt .later Tryd.pinned [.sentinel] true :=
  OpenClaim.laidByTextAt_later rfl rfl tie noOwnUnsafe
theorem tie2 : Tryd.prog.laidByTextLater [("loop.example/pub-g01502/pub/pqsplit.ErrInvalidArgument", Rows.laid_loop_example_pub_g01502_pub_pqsplit_ErrInvalidArgument), ("io.ErrUnexpectedEOF", Rows.laid_io_ErrUnexpectedEOF), ("loop.example/pub-g01502/pub/pqplain.ErrInvalidArgument", Rows.laid_loop_example_pub_g01502_pub_pqplain_ErrInvalidArgument), ("loop.example/pub-g01502/pub/pqdelta.ErrInvalidArgument", Rows.laid_loop_example_pub_g01502_pub_pqdelta_ErrInvalidArgument)] [.sentinel, .sentinel, .sentinel, .sentinel] true :=
  Program.laidByTextLater.sub seatTie1 ["loop.example/pub-g01502/pub/pqsplit.ErrInvalidArgument", "io.ErrUnexpectedEOF", "loop.example/pub-g01502/pub/pqplain.ErrInvalidArgument", "loop.example/pub-g01502/pub/pqdelta.ErrInvalidArgument"] (by kernel_rfl) (by kernel_rfl)
theorem fnPlainFixed_row_tie : Rows.fnPlainFixedRow.laidByTextAt .later Tryd.pinned [.sentinel, .sentinel, .sentinel, .sentinel] true :=
  OpenClaim.laidByTextAt_later rfl rfl tie2 noOwnUnsafe
theorem fnBitsPlainUpto_row_tie : Rows.fnBitsPlainUptoRow.laidByTextAt .later Tryd.pinned [.sentinel] true :=
  OpenClaim.laidByTextAt_later rfl rfl tie noOwnUnsafe
theorem fnPlainInt64sUpto_row_tie : Rows.fnPlainInt64sUptoRow.laidByTextAt .later Tryd.pinned [.sentinel] true :=
  OpenClaim.laidByTextAt_later rfl rfl tie noOwnUnsafe
theorem fnPlainFixedUpto_row_tie : Rows.fnPlainFixedUptoRow.laidByTextAt .later Tryd.pinned [.sentinel, .sentinel, .sentinel, .sentinel] true :=
  OpenClaim.laidByTextAt_later rfl rfl tie2 noOwnUnsafe
theorem fnPlainTextsUpto_row_tie : Rows.fnPlainTextsUptoRow.laidByTextAt .later Tryd.pinned [.sentinel] true :=
  OpenClaim.laidByTextAt_later rfl rfl tie noOwnUnsafe
theorem fnPlainInt32sUpto_row_tie : Rows.fnPlainInt32sUptoRow.laidByTextAt .later Tryd.pinned [.sentinel] true :=
  OpenClaim.laidByTextAt_later rfl rfl tie noOwnUnsafe
end Go.Proofs.YtkefklemcoehmaaDoor
