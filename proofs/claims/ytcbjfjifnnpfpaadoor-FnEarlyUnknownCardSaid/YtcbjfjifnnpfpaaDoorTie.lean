/-
  DERIVED. GIVEN WITH THE SEED: THE PROGRAM's TIES (one call each: nine closed facts by the kernel) AND EACH ROW's TIE, after the 31st guide's Derived/Test/Toyas{Tie, Card}.lean. No idea stands in it: it is a product of the set-up. Laid BY PROGRAM, IN A SANDBOX (cutbox-door.mjs). By AI agents, Wed Nov 11 2026. No macro, syntax, notation, axiom, sorry.
-/
import Derived.Test.YtcbjfjifnnpfpaaDoorRows
import Derived.LaidByTextLater
import Derived.SevenTiedAt
import Derived.LaidSub
import Derived.LaidOnce
namespace Go.Proofs.YtcbjfjifnnpfpaaDoor
open Go
set_option maxRecDepth 100000
theorem seatTie1 : Tryd.prog.laidByTextLater [("loop.example/pub-messagesbuilt/pub/dnsmessage.ErrNotStarted", Rows.laid_loop_example_pub_messagesbuilt_pub_dnsmessage_ErrNotStarted), ("loop.example/pub-messagesbuilt/pub/dnsmessage.ErrSectionDone", Rows.laid_loop_example_pub_messagesbuilt_pub_dnsmessage_ErrSectionDone), ("loop.example/pub-messagesbuilt/pub/dnsmessage.errSegTooLong", Rows.laid_loop_example_pub_messagesbuilt_pub_dnsmessage_errSegTooLong), ("loop.example/pub-messagesbuilt/pub/dnsmessage.errNameTooLong", Rows.laid_loop_example_pub_messagesbuilt_pub_dnsmessage_errNameTooLong), ("loop.example/pub-messagesbuilt/pub/dnsmessage.errZeroSegLen", Rows.laid_loop_example_pub_messagesbuilt_pub_dnsmessage_errZeroSegLen), ("loop.example/pub-messagesbuilt/pub/dnsmessage.errResTooLong", Rows.laid_loop_example_pub_messagesbuilt_pub_dnsmessage_errResTooLong), ("loop.example/pub-messagesbuilt/pub/dnsmessage.errTooManyQuestions", Rows.laid_loop_example_pub_messagesbuilt_pub_dnsmessage_errTooManyQuestions), ("loop.example/pub-messagesbuilt/pub/dnsmessage.errTooManyAnswers", Rows.laid_loop_example_pub_messagesbuilt_pub_dnsmessage_errTooManyAnswers), ("loop.example/pub-messagesbuilt/pub/dnsmessage.errTooManyAuthorities", Rows.laid_loop_example_pub_messagesbuilt_pub_dnsmessage_errTooManyAuthorities), ("loop.example/pub-messagesbuilt/pub/dnsmessage.errTooManyAdditionals", Rows.laid_loop_example_pub_messagesbuilt_pub_dnsmessage_errTooManyAdditionals), ("loop.example/pub-messagesbuilt/pub/dnsmessage.errNonCanonicalName", Rows.laid_loop_example_pub_messagesbuilt_pub_dnsmessage_errNonCanonicalName)] [.sentinel, .sentinel, .sentinel, .sentinel, .sentinel, .sentinel, .sentinel, .sentinel, .sentinel, .sentinel, .sentinel] true :=
  Program.laidByTextLater_by_one 218 8 2 (by kernel_rfl) (by kernel_rfl) (by kernel_rfl) (by kernel_rfl) (by kernel_rfl) (by kernel_rfl) (fun _ _ => by kernel_rfl)
theorem noOwnUnsafe : Tryd.pinned.checked.prog.headLifts.contains "ownunsafe" = false := by kernel_rfl
theorem tie : Tryd.prog.laidByTextLater [("loop.example/pub-messagesbuilt/pub/dnsmessage.ErrNotStarted", Rows.laid_loop_example_pub_messagesbuilt_pub_dnsmessage_ErrNotStarted), ("loop.example/pub-messagesbuilt/pub/dnsmessage.ErrSectionDone", Rows.laid_loop_example_pub_messagesbuilt_pub_dnsmessage_ErrSectionDone), ("loop.example/pub-messagesbuilt/pub/dnsmessage.errSegTooLong", Rows.laid_loop_example_pub_messagesbuilt_pub_dnsmessage_errSegTooLong), ("loop.example/pub-messagesbuilt/pub/dnsmessage.errNameTooLong", Rows.laid_loop_example_pub_messagesbuilt_pub_dnsmessage_errNameTooLong), ("loop.example/pub-messagesbuilt/pub/dnsmessage.errZeroSegLen", Rows.laid_loop_example_pub_messagesbuilt_pub_dnsmessage_errZeroSegLen), ("loop.example/pub-messagesbuilt/pub/dnsmessage.errResTooLong", Rows.laid_loop_example_pub_messagesbuilt_pub_dnsmessage_errResTooLong), ("loop.example/pub-messagesbuilt/pub/dnsmessage.errTooManyQuestions", Rows.laid_loop_example_pub_messagesbuilt_pub_dnsmessage_errTooManyQuestions), ("loop.example/pub-messagesbuilt/pub/dnsmessage.errTooManyAnswers", Rows.laid_loop_example_pub_messagesbuilt_pub_dnsmessage_errTooManyAnswers), ("loop.example/pub-messagesbuilt/pub/dnsmessage.errTooManyAuthorities", Rows.laid_loop_example_pub_messagesbuilt_pub_dnsmessage_errTooManyAuthorities), ("loop.example/pub-messagesbuilt/pub/dnsmessage.errTooManyAdditionals", Rows.laid_loop_example_pub_messagesbuilt_pub_dnsmessage_errTooManyAdditionals), ("loop.example/pub-messagesbuilt/pub/dnsmessage.errNonCanonicalName", Rows.laid_loop_example_pub_messagesbuilt_pub_dnsmessage_errNonCanonicalName)] [.sentinel, .sentinel, .sentinel, .sentinel, .sentinel, .sentinel, .sentinel, .sentinel, .sentinel, .sentinel, .sentinel] true :=
  Program.laidByTextLater.sub seatTie1 ["loop.example/pub-messagesbuilt/pub/dnsmessage.ErrNotStarted", "loop.example/pub-messagesbuilt/pub/dnsmessage.ErrSectionDone", "loop.example/pub-messagesbuilt/pub/dnsmessage.errSegTooLong", "loop.example/pub-messagesbuilt/pub/dnsmessage.errNameTooLong", "loop.example/pub-messagesbuilt/pub/dnsmessage.errZeroSegLen", "loop.example/pub-messagesbuilt/pub/dnsmessage.errResTooLong", "loop.example/pub-messagesbuilt/pub/dnsmessage.errTooManyQuestions", "loop.example/pub-messagesbuilt/pub/dnsmessage.errTooManyAnswers", "loop.example/pub-messagesbuilt/pub/dnsmessage.errTooManyAuthorities", "loop.example/pub-messagesbuilt/pub/dnsmessage.errTooManyAdditionals", "loop.example/pub-messagesbuilt/pub/dnsmessage.errNonCanonicalName"] (by kernel_rfl) (by kernel_rfl)
theorem fnBehindUnknown_row_tie : Rows.fnBehindUnknownRow.laidByTextAt .later Tryd.pinned [.sentinel, .sentinel, .sentinel, .sentinel, .sentinel, .sentinel, .sentinel, .sentinel, .sentinel, .sentinel, .sentinel] true :=
  OpenClaim.laidByTextAt_later rfl rfl tie noOwnUnsafe
theorem fnEarlyUnknown_row_tie : Rows.fnEarlyUnknownRow.laidByTextAt .later Tryd.pinned [.sentinel, .sentinel, .sentinel, .sentinel, .sentinel, .sentinel, .sentinel, .sentinel, .sentinel, .sentinel, .sentinel] true :=
  OpenClaim.laidByTextAt_later rfl rfl tie noOwnUnsafe
theorem fnFarPointers_row_tie : Rows.fnFarPointersRow.laidByTextAt .later Tryd.pinned [.sentinel, .sentinel, .sentinel, .sentinel, .sentinel, .sentinel, .sentinel, .sentinel, .sentinel, .sentinel, .sentinel] true :=
  OpenClaim.laidByTextAt_later rfl rfl tie noOwnUnsafe
theorem fnPlainUnknown_row_tie : Rows.fnPlainUnknownRow.laidByTextAt .later Tryd.pinned [.sentinel, .sentinel, .sentinel, .sentinel, .sentinel, .sentinel, .sentinel, .sentinel, .sentinel, .sentinel, .sentinel] true :=
  OpenClaim.laidByTextAt_later rfl rfl tie noOwnUnsafe
theorem fnTooLong_row_tie : Rows.fnTooLongRow.laidByTextAt .later Tryd.pinned [.sentinel, .sentinel, .sentinel, .sentinel, .sentinel, .sentinel, .sentinel, .sentinel, .sentinel, .sentinel, .sentinel] true :=
  OpenClaim.laidByTextAt_later rfl rfl tie noOwnUnsafe
theorem fnBehindA_row_tie : Rows.fnBehindARow.laidByTextAt .later Tryd.pinned [.sentinel, .sentinel, .sentinel, .sentinel, .sentinel, .sentinel, .sentinel, .sentinel, .sentinel, .sentinel, .sentinel] true :=
  OpenClaim.laidByTextAt_later rfl rfl tie noOwnUnsafe
theorem fnEarlyA_row_tie : Rows.fnEarlyARow.laidByTextAt .later Tryd.pinned [.sentinel, .sentinel, .sentinel, .sentinel, .sentinel, .sentinel, .sentinel, .sentinel, .sentinel, .sentinel, .sentinel] true :=
  OpenClaim.laidByTextAt_later rfl rfl tie noOwnUnsafe
theorem fnPlainA_row_tie : Rows.fnPlainARow.laidByTextAt .later Tryd.pinned [.sentinel, .sentinel, .sentinel, .sentinel, .sentinel, .sentinel, .sentinel, .sentinel, .sentinel, .sentinel, .sentinel] true :=
  OpenClaim.laidByTextAt_later rfl rfl tie noOwnUnsafe
theorem fnBehindAAAA_row_tie : Rows.fnBehindAAAARow.laidByTextAt .later Tryd.pinned [.sentinel, .sentinel, .sentinel, .sentinel, .sentinel, .sentinel, .sentinel, .sentinel, .sentinel, .sentinel, .sentinel] true :=
  OpenClaim.laidByTextAt_later rfl rfl tie noOwnUnsafe
theorem fnEarlyAAAA_row_tie : Rows.fnEarlyAAAARow.laidByTextAt .later Tryd.pinned [.sentinel, .sentinel, .sentinel, .sentinel, .sentinel, .sentinel, .sentinel, .sentinel, .sentinel, .sentinel, .sentinel] true :=
  OpenClaim.laidByTextAt_later rfl rfl tie noOwnUnsafe
theorem fnPlainAAAA_row_tie : Rows.fnPlainAAAARow.laidByTextAt .later Tryd.pinned [.sentinel, .sentinel, .sentinel, .sentinel, .sentinel, .sentinel, .sentinel, .sentinel, .sentinel, .sentinel, .sentinel] true :=
  OpenClaim.laidByTextAt_later rfl rfl tie noOwnUnsafe
theorem fnBehindUnknownUpto_row_tie : Rows.fnBehindUnknownUptoRow.laidByTextAt .later Tryd.pinned [.sentinel, .sentinel, .sentinel, .sentinel, .sentinel, .sentinel, .sentinel, .sentinel, .sentinel, .sentinel, .sentinel] true :=
  OpenClaim.laidByTextAt_later rfl rfl tie noOwnUnsafe
theorem fnEarlyUnknownUpto_row_tie : Rows.fnEarlyUnknownUptoRow.laidByTextAt .later Tryd.pinned [.sentinel, .sentinel, .sentinel, .sentinel, .sentinel, .sentinel, .sentinel, .sentinel, .sentinel, .sentinel, .sentinel] true :=
  OpenClaim.laidByTextAt_later rfl rfl tie noOwnUnsafe
theorem fnFarPointersUpto_row_tie : Rows.fnFarPointersUptoRow.laidByTextAt .later Tryd.pinned [.sentinel, .sentinel, .sentinel, .sentinel, .sentinel, .sentinel, .sentinel, .sentinel, .sentinel, .sentinel, .sentinel] true :=
  OpenClaim.laidByTextAt_later rfl rfl tie noOwnUnsafe
theorem fnPlainUnknownUpto_row_tie : Rows.fnPlainUnknownUptoRow.laidByTextAt .later Tryd.pinned [.sentinel, .sentinel, .sentinel, .sentinel, .sentinel, .sentinel, .sentinel, .sentinel, .sentinel, .sentinel, .sentinel] true :=
  OpenClaim.laidByTextAt_later rfl rfl tie noOwnUnsafe
theorem fnTooLongUpto_row_tie : Rows.fnTooLongUptoRow.laidByTextAt .later Tryd.pinned [.sentinel, .sentinel, .sentinel, .sentinel, .sentinel, .sentinel, .sentinel, .sentinel, .sentinel, .sentinel, .sentinel] true :=
  OpenClaim.laidByTextAt_later rfl rfl tie noOwnUnsafe
theorem fnBehindAUpto_row_tie : Rows.fnBehindAUptoRow.laidByTextAt .later Tryd.pinned [.sentinel, .sentinel, .sentinel, .sentinel, .sentinel, .sentinel, .sentinel, .sentinel, .sentinel, .sentinel, .sentinel] true :=
  OpenClaim.laidByTextAt_later rfl rfl tie noOwnUnsafe
theorem fnEarlyAUpto_row_tie : Rows.fnEarlyAUptoRow.laidByTextAt .later Tryd.pinned [.sentinel, .sentinel, .sentinel, .sentinel, .sentinel, .sentinel, .sentinel, .sentinel, .sentinel, .sentinel, .sentinel] true :=
  OpenClaim.laidByTextAt_later rfl rfl tie noOwnUnsafe
theorem fnPlainAUpto_row_tie : Rows.fnPlainAUptoRow.laidByTextAt .later Tryd.pinned [.sentinel, .sentinel, .sentinel, .sentinel, .sentinel, .sentinel, .sentinel, .sentinel, .sentinel, .sentinel, .sentinel] true :=
  OpenClaim.laidByTextAt_later rfl rfl tie noOwnUnsafe
theorem fnBehindAAAAUpto_row_tie : Rows.fnBehindAAAAUptoRow.laidByTextAt .later Tryd.pinned [.sentinel, .sentinel, .sentinel, .sentinel, .sentinel, .sentinel, .sentinel, .sentinel, .sentinel, .sentinel, .sentinel] true :=
  OpenClaim.laidByTextAt_later rfl rfl tie noOwnUnsafe
theorem fnEarlyAAAAUpto_row_tie : Rows.fnEarlyAAAAUptoRow.laidByTextAt .later Tryd.pinned [.sentinel, .sentinel, .sentinel, .sentinel, .sentinel, .sentinel, .sentinel, .sentinel, .sentinel, .sentinel, .sentinel] true :=
  OpenClaim.laidByTextAt_later rfl rfl tie noOwnUnsafe
theorem fnPlainAAAAUpto_row_tie : Rows.fnPlainAAAAUptoRow.laidByTextAt .later Tryd.pinned [.sentinel, .sentinel, .sentinel, .sentinel, .sentinel, .sentinel, .sentinel, .sentinel, .sentinel, .sentinel, .sentinel] true :=
  OpenClaim.laidByTextAt_later rfl rfl tie noOwnUnsafe
end Go.Proofs.YtcbjfjifnnpfpaaDoor
