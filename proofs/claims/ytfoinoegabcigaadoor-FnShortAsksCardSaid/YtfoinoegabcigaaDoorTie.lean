/-
  DERIVED. GIVEN WITH THE SEED: THE PROGRAM's TIES (one call each: nine closed facts by the kernel) AND EACH ROW's TIE, after the 31st guide's Derived/Test/Toyas{Tie, Card}.lean. No idea stands in it: it is a product of the set-up. Laid BY PROGRAM, IN A SANDBOX (cutbox-door.mjs). By AI agents, Wed Nov 11 2026. No macro, syntax, notation, axiom, sorry.
-/
import Derived.Test.YtfoinoegabcigaaDoorRows
import Derived.LaidByTextLater
import Derived.SevenTiedAt
import Derived.LaidSub
import Derived.LaidOnce
namespace Go.Proofs.YtfoinoegabcigaaDoor
open Go
set_option maxRecDepth 100000
theorem seatTie1 : Tryd.prog.laidByTextLater [("loop.example/pub-messagesbuilt/pub/dnsmessage.ErrNotStarted", Rows.laid_loop_example_pub_messagesbuilt_pub_dnsmessage_ErrNotStarted), ("loop.example/pub-messagesbuilt/pub/dnsmessage.ErrSectionDone", Rows.laid_loop_example_pub_messagesbuilt_pub_dnsmessage_ErrSectionDone), ("loop.example/pub-messagesbuilt/pub/dnsmessage.errCalcLen", Rows.laid_loop_example_pub_messagesbuilt_pub_dnsmessage_errCalcLen), ("loop.example/pub-messagesbuilt/pub/dnsmessage.errSegTooLong", Rows.laid_loop_example_pub_messagesbuilt_pub_dnsmessage_errSegTooLong), ("loop.example/pub-messagesbuilt/pub/dnsmessage.errNameTooLong", Rows.laid_loop_example_pub_messagesbuilt_pub_dnsmessage_errNameTooLong), ("loop.example/pub-messagesbuilt/pub/dnsmessage.errZeroSegLen", Rows.laid_loop_example_pub_messagesbuilt_pub_dnsmessage_errZeroSegLen), ("loop.example/pub-messagesbuilt/pub/dnsmessage.errTooManyQuestions", Rows.laid_loop_example_pub_messagesbuilt_pub_dnsmessage_errTooManyQuestions), ("loop.example/pub-messagesbuilt/pub/dnsmessage.errTooManyAnswers", Rows.laid_loop_example_pub_messagesbuilt_pub_dnsmessage_errTooManyAnswers), ("loop.example/pub-messagesbuilt/pub/dnsmessage.errTooManyAuthorities", Rows.laid_loop_example_pub_messagesbuilt_pub_dnsmessage_errTooManyAuthorities), ("loop.example/pub-messagesbuilt/pub/dnsmessage.errTooManyAdditionals", Rows.laid_loop_example_pub_messagesbuilt_pub_dnsmessage_errTooManyAdditionals), ("loop.example/pub-messagesbuilt/pub/dnsmessage.errNonCanonicalName", Rows.laid_loop_example_pub_messagesbuilt_pub_dnsmessage_errNonCanonicalName)] [.sentinel, .sentinel, .sentinel, .sentinel, .sentinel, .sentinel, .sentinel, .sentinel, .sentinel, .sentinel, .sentinel] true :=
  Program.laidByTextLater_by_one 218 8 2 (by kernel_rfl) (by kernel_rfl) (by kernel_rfl) (by kernel_rfl) (by kernel_rfl) (by kernel_rfl) (fun _ _ => by kernel_rfl)
theorem noOwnUnsafe : Tryd.pinned.checked.prog.headLifts.contains "ownunsafe" = false := by kernel_rfl
theorem tie : Tryd.prog.laidByTextLater [("loop.example/pub-messagesbuilt/pub/dnsmessage.errCalcLen", Rows.laid_loop_example_pub_messagesbuilt_pub_dnsmessage_errCalcLen)] [.sentinel] true :=
  Program.laidByTextLater.sub seatTie1 ["loop.example/pub-messagesbuilt/pub/dnsmessage.errCalcLen"] (by kernel_rfl) (by kernel_rfl)
theorem fnNameText_row_tie : Rows.fnNameTextRow.laidByTextAt .later Tryd.pinned [.sentinel] true :=
  OpenClaim.laidByTextAt_later rfl rfl tie noOwnUnsafe
theorem tie2 : Tryd.prog.laidByTextLater [("loop.example/pub-messagesbuilt/pub/dnsmessage.ErrNotStarted", Rows.laid_loop_example_pub_messagesbuilt_pub_dnsmessage_ErrNotStarted), ("loop.example/pub-messagesbuilt/pub/dnsmessage.ErrSectionDone", Rows.laid_loop_example_pub_messagesbuilt_pub_dnsmessage_ErrSectionDone), ("loop.example/pub-messagesbuilt/pub/dnsmessage.errSegTooLong", Rows.laid_loop_example_pub_messagesbuilt_pub_dnsmessage_errSegTooLong), ("loop.example/pub-messagesbuilt/pub/dnsmessage.errNameTooLong", Rows.laid_loop_example_pub_messagesbuilt_pub_dnsmessage_errNameTooLong), ("loop.example/pub-messagesbuilt/pub/dnsmessage.errZeroSegLen", Rows.laid_loop_example_pub_messagesbuilt_pub_dnsmessage_errZeroSegLen), ("loop.example/pub-messagesbuilt/pub/dnsmessage.errTooManyQuestions", Rows.laid_loop_example_pub_messagesbuilt_pub_dnsmessage_errTooManyQuestions), ("loop.example/pub-messagesbuilt/pub/dnsmessage.errTooManyAnswers", Rows.laid_loop_example_pub_messagesbuilt_pub_dnsmessage_errTooManyAnswers), ("loop.example/pub-messagesbuilt/pub/dnsmessage.errTooManyAuthorities", Rows.laid_loop_example_pub_messagesbuilt_pub_dnsmessage_errTooManyAuthorities), ("loop.example/pub-messagesbuilt/pub/dnsmessage.errTooManyAdditionals", Rows.laid_loop_example_pub_messagesbuilt_pub_dnsmessage_errTooManyAdditionals), ("loop.example/pub-messagesbuilt/pub/dnsmessage.errNonCanonicalName", Rows.laid_loop_example_pub_messagesbuilt_pub_dnsmessage_errNonCanonicalName)] [.sentinel, .sentinel, .sentinel, .sentinel, .sentinel, .sentinel, .sentinel, .sentinel, .sentinel, .sentinel] true :=
  Program.laidByTextLater.sub seatTie1 ["loop.example/pub-messagesbuilt/pub/dnsmessage.ErrNotStarted", "loop.example/pub-messagesbuilt/pub/dnsmessage.ErrSectionDone", "loop.example/pub-messagesbuilt/pub/dnsmessage.errSegTooLong", "loop.example/pub-messagesbuilt/pub/dnsmessage.errNameTooLong", "loop.example/pub-messagesbuilt/pub/dnsmessage.errZeroSegLen", "loop.example/pub-messagesbuilt/pub/dnsmessage.errTooManyQuestions", "loop.example/pub-messagesbuilt/pub/dnsmessage.errTooManyAnswers", "loop.example/pub-messagesbuilt/pub/dnsmessage.errTooManyAuthorities", "loop.example/pub-messagesbuilt/pub/dnsmessage.errTooManyAdditionals", "loop.example/pub-messagesbuilt/pub/dnsmessage.errNonCanonicalName"] (by kernel_rfl) (by kernel_rfl)
theorem fnAsksTwice_row_tie : Rows.fnAsksTwiceRow.laidByTextAt .later Tryd.pinned [.sentinel, .sentinel, .sentinel, .sentinel, .sentinel, .sentinel, .sentinel, .sentinel, .sentinel, .sentinel] true :=
  OpenClaim.laidByTextAt_later rfl rfl tie2 noOwnUnsafe
theorem fnBackwards_row_tie : Rows.fnBackwardsRow.laidByTextAt .later Tryd.pinned [.sentinel, .sentinel, .sentinel, .sentinel, .sentinel, .sentinel, .sentinel, .sentinel, .sentinel, .sentinel] true :=
  OpenClaim.laidByTextAt_later rfl rfl tie2 noOwnUnsafe
theorem fnHeadBuf_row_tie : Rows.fnHeadBufRow.laidByTextAt .later Tryd.pinned [.sentinel, .sentinel, .sentinel, .sentinel, .sentinel, .sentinel, .sentinel, .sentinel, .sentinel, .sentinel] true :=
  OpenClaim.laidByTextAt_later rfl rfl tie2 noOwnUnsafe
theorem fnLateAsk_row_tie : Rows.fnLateAskRow.laidByTextAt .later Tryd.pinned [.sentinel, .sentinel, .sentinel, .sentinel, .sentinel, .sentinel, .sentinel, .sentinel, .sentinel, .sentinel] true :=
  OpenClaim.laidByTextAt_later rfl rfl tie2 noOwnUnsafe
theorem fnShortAsks_row_tie : Rows.fnShortAsksRow.laidByTextAt .later Tryd.pinned [.sentinel, .sentinel, .sentinel, .sentinel, .sentinel, .sentinel, .sentinel, .sentinel, .sentinel, .sentinel] true :=
  OpenClaim.laidByTextAt_later rfl rfl tie2 noOwnUnsafe
theorem fnNameTextUpto_row_tie : Rows.fnNameTextUptoRow.laidByTextAt .later Tryd.pinned [.sentinel] true :=
  OpenClaim.laidByTextAt_later rfl rfl tie noOwnUnsafe
theorem fnAsksTwiceUpto_row_tie : Rows.fnAsksTwiceUptoRow.laidByTextAt .later Tryd.pinned [.sentinel, .sentinel, .sentinel, .sentinel, .sentinel, .sentinel, .sentinel, .sentinel, .sentinel, .sentinel] true :=
  OpenClaim.laidByTextAt_later rfl rfl tie2 noOwnUnsafe
theorem fnBackwardsUpto_row_tie : Rows.fnBackwardsUptoRow.laidByTextAt .later Tryd.pinned [.sentinel, .sentinel, .sentinel, .sentinel, .sentinel, .sentinel, .sentinel, .sentinel, .sentinel, .sentinel] true :=
  OpenClaim.laidByTextAt_later rfl rfl tie2 noOwnUnsafe
theorem fnHeadBufUpto_row_tie : Rows.fnHeadBufUptoRow.laidByTextAt .later Tryd.pinned [.sentinel, .sentinel, .sentinel, .sentinel, .sentinel, .sentinel, .sentinel, .sentinel, .sentinel, .sentinel] true :=
  OpenClaim.laidByTextAt_later rfl rfl tie2 noOwnUnsafe
theorem fnLateAskUpto_row_tie : Rows.fnLateAskUptoRow.laidByTextAt .later Tryd.pinned [.sentinel, .sentinel, .sentinel, .sentinel, .sentinel, .sentinel, .sentinel, .sentinel, .sentinel, .sentinel] true :=
  OpenClaim.laidByTextAt_later rfl rfl tie2 noOwnUnsafe
theorem fnShortAsksUpto_row_tie : Rows.fnShortAsksUptoRow.laidByTextAt .later Tryd.pinned [.sentinel, .sentinel, .sentinel, .sentinel, .sentinel, .sentinel, .sentinel, .sentinel, .sentinel, .sentinel] true :=
  OpenClaim.laidByTextAt_later rfl rfl tie2 noOwnUnsafe
end Go.Proofs.YtfoinoegabcigaaDoor
