/-
  DERIVED. GIVEN WITH THE SEED: THE PROGRAM's TIES (one call each: nine closed facts by the kernel) AND EACH ROW's TIE, after the 31st guide's Derived/Test/Toyas{Tie, Card}.lean. No idea stands in it: it is a product of the set-up. Laid BY PROGRAM, IN A SANDBOX (cutbox-door.mjs). By AI agents, Wed Nov 11 2026. No macro, syntax, notation, axiom, sorry.
-/
import Derived.Test.YtoceibpgapjhcaaDoorRows
import Derived.LaidByTextLater
import Derived.SevenTiedAt
import Derived.LaidSub
import Derived.LaidOnce
namespace Go.Proofs.YtoceibpgapjhcaaDoor
open Go
set_option maxRecDepth 100000
theorem seatTie1 : Tryd.prog.laidByTextLater [("loop.example/pub-g01468/pub/bidirule.ErrInvalid", Rows.laid_loop_example_pub_g01468_pub_bidirule_ErrInvalid), ("loop.example/pub-g01468/pub/bidirule.transitions", Rows.laid_loop_example_pub_g01468_pub_bidirule_transitions), ("loop.example/pub-g01468/pub/bidirule.ErrShortDst", Rows.laid_loop_example_pub_g01468_pub_bidirule_ErrShortDst), ("loop.example/pub-g01468/pub/bidirule.ErrShortSrc", Rows.laid_loop_example_pub_g01468_pub_bidirule_ErrShortSrc)] [.sentinel, .data, .sentinel, .sentinel] true :=
  Program.laidByTextLater_by_one 89 8 25 (by kernel_rfl) (by kernel_rfl) (by kernel_rfl) (by kernel_rfl) (by kernel_rfl) (by kernel_rfl) (fun _ _ => by kernel_rfl)
theorem noOwnUnsafe : Tryd.pinned.checked.prog.headLifts.contains "ownunsafe" = false := by kernel_rfl
theorem tie : Tryd.prog.laidByTextLater [("loop.example/pub-g01468/pub/bidirule.transitions", Rows.laid_loop_example_pub_g01468_pub_bidirule_transitions)] [.data] true :=
  Program.laidByTextLater.sub seatTie1 ["loop.example/pub-g01468/pub/bidirule.transitions"] (by kernel_rfl) (by kernel_rfl)
theorem fnStep_row_tie : Rows.fnStepRow.laidByTextAt .later Tryd.pinned [.data] true :=
  OpenClaim.laidByTextAt_later rfl rfl tie noOwnUnsafe
theorem fnStepBroken_row_tie : Rows.fnStepBrokenRow.laidByTextAt .later Tryd.pinned [.data] true :=
  OpenClaim.laidByTextAt_later rfl rfl tie noOwnUnsafe
theorem fnAdvanced_row_tie : Rows.fnAdvancedRow.laidByTextAt .later Tryd.pinned [.data] true :=
  OpenClaim.laidByTextAt_later rfl rfl tie noOwnUnsafe
theorem fnAdvancedFault_row_tie : Rows.fnAdvancedFaultRow.laidByTextAt .later Tryd.pinned [.data] true :=
  OpenClaim.laidByTextAt_later rfl rfl tie noOwnUnsafe
theorem fnValid_row_tie : Rows.fnValidRow.laidByTextAt .later Tryd.pinned [.data] true :=
  OpenClaim.laidByTextAt_later rfl rfl tie noOwnUnsafe
theorem fnValidBegin_row_tie : Rows.fnValidBeginRow.laidByTextAt .later Tryd.pinned [.data] true :=
  OpenClaim.laidByTextAt_later rfl rfl tie noOwnUnsafe
theorem fnValidEnd_row_tie : Rows.fnValidEndRow.laidByTextAt .later Tryd.pinned [.data] true :=
  OpenClaim.laidByTextAt_later rfl rfl tie noOwnUnsafe
theorem fnValidJoined_row_tie : Rows.fnValidJoinedRow.laidByTextAt .later Tryd.pinned [.data] true :=
  OpenClaim.laidByTextAt_later rfl rfl tie noOwnUnsafe
theorem fnValidMarks_row_tie : Rows.fnValidMarksRow.laidByTextAt .later Tryd.pinned [.data] true :=
  OpenClaim.laidByTextAt_later rfl rfl tie noOwnUnsafe
theorem fnValidNumbers_row_tie : Rows.fnValidNumbersRow.laidByTextAt .later Tryd.pinned [.data] true :=
  OpenClaim.laidByTextAt_later rfl rfl tie noOwnUnsafe
theorem tie2 : Tryd.prog.laidByTextLater [("loop.example/pub-g01468/pub/bidirule.ErrInvalid", Rows.laid_loop_example_pub_g01468_pub_bidirule_ErrInvalid), ("loop.example/pub-g01468/pub/bidirule.transitions", Rows.laid_loop_example_pub_g01468_pub_bidirule_transitions), ("loop.example/pub-g01468/pub/bidirule.ErrShortDst", Rows.laid_loop_example_pub_g01468_pub_bidirule_ErrShortDst), ("loop.example/pub-g01468/pub/bidirule.ErrShortSrc", Rows.laid_loop_example_pub_g01468_pub_bidirule_ErrShortSrc)] [.sentinel, .data, .sentinel, .sentinel] true :=
  Program.laidByTextLater.sub seatTie1 ["loop.example/pub-g01468/pub/bidirule.ErrInvalid", "loop.example/pub-g01468/pub/bidirule.transitions", "loop.example/pub-g01468/pub/bidirule.ErrShortDst", "loop.example/pub-g01468/pub/bidirule.ErrShortSrc"] (by kernel_rfl) (by kernel_rfl)
theorem fnSpanPieces_row_tie : Rows.fnSpanPiecesRow.laidByTextAt .later Tryd.pinned [.sentinel, .data, .sentinel, .sentinel] true :=
  OpenClaim.laidByTextAt_later rfl rfl tie2 noOwnUnsafe
theorem fnTransformed_row_tie : Rows.fnTransformedRow.laidByTextAt .later Tryd.pinned [.sentinel, .data, .sentinel, .sentinel] true :=
  OpenClaim.laidByTextAt_later rfl rfl tie2 noOwnUnsafe
theorem fnTransformedShort_row_tie : Rows.fnTransformedShortRow.laidByTextAt .later Tryd.pinned [.sentinel, .data, .sentinel, .sentinel] true :=
  OpenClaim.laidByTextAt_later rfl rfl tie2 noOwnUnsafe
theorem fnStepUpto_row_tie : Rows.fnStepUptoRow.laidByTextAt .later Tryd.pinned [.data] true :=
  OpenClaim.laidByTextAt_later rfl rfl tie noOwnUnsafe
theorem fnStepBrokenUpto_row_tie : Rows.fnStepBrokenUptoRow.laidByTextAt .later Tryd.pinned [.data] true :=
  OpenClaim.laidByTextAt_later rfl rfl tie noOwnUnsafe
theorem fnAdvancedUpto_row_tie : Rows.fnAdvancedUptoRow.laidByTextAt .later Tryd.pinned [.data] true :=
  OpenClaim.laidByTextAt_later rfl rfl tie noOwnUnsafe
theorem fnAdvancedFaultUpto_row_tie : Rows.fnAdvancedFaultUptoRow.laidByTextAt .later Tryd.pinned [.data] true :=
  OpenClaim.laidByTextAt_later rfl rfl tie noOwnUnsafe
theorem fnValidUpto_row_tie : Rows.fnValidUptoRow.laidByTextAt .later Tryd.pinned [.data] true :=
  OpenClaim.laidByTextAt_later rfl rfl tie noOwnUnsafe
theorem fnValidBeginUpto_row_tie : Rows.fnValidBeginUptoRow.laidByTextAt .later Tryd.pinned [.data] true :=
  OpenClaim.laidByTextAt_later rfl rfl tie noOwnUnsafe
theorem fnValidEndUpto_row_tie : Rows.fnValidEndUptoRow.laidByTextAt .later Tryd.pinned [.data] true :=
  OpenClaim.laidByTextAt_later rfl rfl tie noOwnUnsafe
theorem fnValidJoinedUpto_row_tie : Rows.fnValidJoinedUptoRow.laidByTextAt .later Tryd.pinned [.data] true :=
  OpenClaim.laidByTextAt_later rfl rfl tie noOwnUnsafe
theorem fnValidMarksUpto_row_tie : Rows.fnValidMarksUptoRow.laidByTextAt .later Tryd.pinned [.data] true :=
  OpenClaim.laidByTextAt_later rfl rfl tie noOwnUnsafe
theorem fnValidNumbersUpto_row_tie : Rows.fnValidNumbersUptoRow.laidByTextAt .later Tryd.pinned [.data] true :=
  OpenClaim.laidByTextAt_later rfl rfl tie noOwnUnsafe
theorem fnSpanPiecesUpto_row_tie : Rows.fnSpanPiecesUptoRow.laidByTextAt .later Tryd.pinned [.sentinel, .data, .sentinel, .sentinel] true :=
  OpenClaim.laidByTextAt_later rfl rfl tie2 noOwnUnsafe
theorem fnTransformedUpto_row_tie : Rows.fnTransformedUptoRow.laidByTextAt .later Tryd.pinned [.sentinel, .data, .sentinel, .sentinel] true :=
  OpenClaim.laidByTextAt_later rfl rfl tie2 noOwnUnsafe
theorem fnTransformedShortUpto_row_tie : Rows.fnTransformedShortUptoRow.laidByTextAt .later Tryd.pinned [.sentinel, .data, .sentinel, .sentinel] true :=
  OpenClaim.laidByTextAt_later rfl rfl tie2 noOwnUnsafe
end Go.Proofs.YtoceibpgapjhcaaDoor
