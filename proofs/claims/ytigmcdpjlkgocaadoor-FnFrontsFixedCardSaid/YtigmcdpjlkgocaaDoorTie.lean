/-
  DERIVED. GIVEN WITH THE SEED: THE PROGRAM's TIES (one call each: nine closed facts by the kernel) AND EACH ROW's TIE, after the 31st guide's Derived/Test/Toyas{Tie, Card}.lean. No idea stands in it: it is a product of the set-up. Laid BY PROGRAM, IN A SANDBOX (cutbox-door.mjs). By AI agents, Wed Nov 11 2026. No macro, syntax, notation, axiom, sorry.
-/
import Derived.Test.YtigmcdpjlkgocaaDoorRows
import Derived.LaidByTextLater
import Derived.SevenTiedAt
import Derived.LaidSub
import Derived.LaidOnce
namespace Go.Proofs.YtigmcdpjlkgocaaDoor
open Go
set_option maxRecDepth 100000
theorem seatTie1 : Tryd.prog.laidByTextLater [("loop.example/pub-g01502/pub/pqsplit.ErrInvalidArgument", Rows.laid_loop_example_pub_g01502_pub_pqsplit_ErrInvalidArgument), ("io.ErrUnexpectedEOF", Rows.laid_io_ErrUnexpectedEOF), ("loop.example/pub-g01502/pub/pqplain.ErrInvalidArgument", Rows.laid_loop_example_pub_g01502_pub_pqplain_ErrInvalidArgument), ("loop.example/pub-g01502/pub/pqdelta.ErrInvalidArgument", Rows.laid_loop_example_pub_g01502_pub_pqdelta_ErrInvalidArgument)] [.sentinel, .sentinel, .sentinel, .sentinel] true :=
  Program.laidByTextLater_by_one 85 8 2 (by kernel_rfl) (by kernel_rfl) (by kernel_rfl) (by kernel_rfl) (by kernel_rfl) (by kernel_rfl) (fun _ _ => by kernel_rfl)
theorem noOwnUnsafe : Tryd.pinned.checked.prog.headLifts.contains "ownunsafe" = false := by kernel_rfl
theorem tie : Tryd.prog.laidByTextLater [("io.ErrUnexpectedEOF", Rows.laid_io_ErrUnexpectedEOF)] [.sentinel] true :=
  Program.laidByTextLater.sub seatTie1 ["io.ErrUnexpectedEOF"] (by kernel_rfl) (by kernel_rfl)
theorem fnDelta64Read_row_tie : Rows.fnDelta64ReadRow.laidByTextAt .later Tryd.pinned [.sentinel] true :=
  OpenClaim.laidByTextAt_later rfl rfl tie noOwnUnsafe
theorem fnDeltaCut_row_tie : Rows.fnDeltaCutRow.laidByTextAt .later Tryd.pinned [.sentinel] true :=
  OpenClaim.laidByTextAt_later rfl rfl tie noOwnUnsafe
theorem fnFrontsRead_row_tie : Rows.fnFrontsReadRow.laidByTextAt .later Tryd.pinned [.sentinel] true :=
  OpenClaim.laidByTextAt_later rfl rfl tie noOwnUnsafe
theorem fnLengthsRead_row_tie : Rows.fnLengthsReadRow.laidByTextAt .later Tryd.pinned [.sentinel] true :=
  OpenClaim.laidByTextAt_later rfl rfl tie noOwnUnsafe
theorem fnDelta32Read_row_tie : Rows.fnDelta32ReadRow.laidByTextAt .later Tryd.pinned [.sentinel] true :=
  OpenClaim.laidByTextAt_later rfl rfl tie noOwnUnsafe
theorem fnFrontsBoth_row_tie : Rows.fnFrontsBothRow.laidByTextAt .later Tryd.pinned [.sentinel] true :=
  OpenClaim.laidByTextAt_later rfl rfl tie noOwnUnsafe
theorem fnLengthsBoth_row_tie : Rows.fnLengthsBothRow.laidByTextAt .later Tryd.pinned [.sentinel] true :=
  OpenClaim.laidByTextAt_later rfl rfl tie noOwnUnsafe
theorem tie2 : Tryd.prog.laidByTextLater [("loop.example/pub-g01502/pub/pqsplit.ErrInvalidArgument", Rows.laid_loop_example_pub_g01502_pub_pqsplit_ErrInvalidArgument), ("io.ErrUnexpectedEOF", Rows.laid_io_ErrUnexpectedEOF), ("loop.example/pub-g01502/pub/pqplain.ErrInvalidArgument", Rows.laid_loop_example_pub_g01502_pub_pqplain_ErrInvalidArgument), ("loop.example/pub-g01502/pub/pqdelta.ErrInvalidArgument", Rows.laid_loop_example_pub_g01502_pub_pqdelta_ErrInvalidArgument)] [.sentinel, .sentinel, .sentinel, .sentinel] true :=
  Program.laidByTextLater.sub seatTie1 ["loop.example/pub-g01502/pub/pqsplit.ErrInvalidArgument", "io.ErrUnexpectedEOF", "loop.example/pub-g01502/pub/pqplain.ErrInvalidArgument", "loop.example/pub-g01502/pub/pqdelta.ErrInvalidArgument"] (by kernel_rfl) (by kernel_rfl)
theorem fnFrontsFixed_row_tie : Rows.fnFrontsFixedRow.laidByTextAt .later Tryd.pinned [.sentinel, .sentinel, .sentinel, .sentinel] true :=
  OpenClaim.laidByTextAt_later rfl rfl tie2 noOwnUnsafe
theorem fnDelta64ReadUpto_row_tie : Rows.fnDelta64ReadUptoRow.laidByTextAt .later Tryd.pinned [.sentinel] true :=
  OpenClaim.laidByTextAt_later rfl rfl tie noOwnUnsafe
theorem fnDeltaCutUpto_row_tie : Rows.fnDeltaCutUptoRow.laidByTextAt .later Tryd.pinned [.sentinel] true :=
  OpenClaim.laidByTextAt_later rfl rfl tie noOwnUnsafe
theorem fnFrontsReadUpto_row_tie : Rows.fnFrontsReadUptoRow.laidByTextAt .later Tryd.pinned [.sentinel] true :=
  OpenClaim.laidByTextAt_later rfl rfl tie noOwnUnsafe
theorem fnLengthsReadUpto_row_tie : Rows.fnLengthsReadUptoRow.laidByTextAt .later Tryd.pinned [.sentinel] true :=
  OpenClaim.laidByTextAt_later rfl rfl tie noOwnUnsafe
theorem fnDelta32ReadUpto_row_tie : Rows.fnDelta32ReadUptoRow.laidByTextAt .later Tryd.pinned [.sentinel] true :=
  OpenClaim.laidByTextAt_later rfl rfl tie noOwnUnsafe
theorem fnFrontsFixedUpto_row_tie : Rows.fnFrontsFixedUptoRow.laidByTextAt .later Tryd.pinned [.sentinel, .sentinel, .sentinel, .sentinel] true :=
  OpenClaim.laidByTextAt_later rfl rfl tie2 noOwnUnsafe
theorem fnFrontsBothUpto_row_tie : Rows.fnFrontsBothUptoRow.laidByTextAt .later Tryd.pinned [.sentinel] true :=
  OpenClaim.laidByTextAt_later rfl rfl tie noOwnUnsafe
theorem fnLengthsBothUpto_row_tie : Rows.fnLengthsBothUptoRow.laidByTextAt .later Tryd.pinned [.sentinel] true :=
  OpenClaim.laidByTextAt_later rfl rfl tie noOwnUnsafe
end Go.Proofs.YtigmcdpjlkgocaaDoor
