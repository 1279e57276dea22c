/-
  DERIVED. GIVEN WITH THE SEED: THE PROGRAM's TIES (one call each: nine closed facts by the kernel) AND EACH ROW's TIE, after the 31st guide's Derived/Test/Toyas{Tie, Card}.lean. No idea stands in it: it is a product of the set-up. Laid BY PROGRAM, IN A SANDBOX (cutbox-door.mjs). By AI agents, Wed Nov 11 2026. No macro, syntax, notation, axiom, sorry.
-/
import Derived.Test.YthdjgcegpkjhmaaDoorRows
import Derived.LaidByTextLater
import Derived.SevenTiedAt
import Derived.LaidSub
import Derived.LaidOnce
namespace Go.Proofs.YthdjgcegpkjhmaaDoor
open Go
set_option maxRecDepth 100000
theorem seatTie1 : Tryd.prog.laidByTextLater [("loop.example/pub-messagesbuilt/pub/dnsmessage.ErrNotStarted", Rows.laid_loop_example_pub_messagesbuilt_pub_dnsmessage_ErrNotStarted), ("loop.example/pub-messagesbuilt/pub/dnsmessage.ErrSectionDone", Rows.laid_loop_example_pub_messagesbuilt_pub_dnsmessage_ErrSectionDone), ("loop.example/pub-messagesbuilt/pub/dnsmessage.errSegTooLong", Rows.laid_loop_example_pub_messagesbuilt_pub_dnsmessage_errSegTooLong), ("loop.example/pub-messagesbuilt/pub/dnsmessage.errNameTooLong", Rows.laid_loop_example_pub_messagesbuilt_pub_dnsmessage_errNameTooLong), ("loop.example/pub-messagesbuilt/pub/dnsmessage.errZeroSegLen", Rows.laid_loop_example_pub_messagesbuilt_pub_dnsmessage_errZeroSegLen), ("loop.example/pub-messagesbuilt/pub/dnsmessage.errResTooLong", Rows.laid_loop_example_pub_messagesbuilt_pub_dnsmessage_errResTooLong), ("loop.example/pub-messagesbuilt/pub/dnsmessage.errTooManyQuestions", Rows.laid_loop_example_pub_messagesbuilt_pub_dnsmessage_errTooManyQuestions), ("loop.example/pub-messagesbuilt/pub/dnsmessage.errTooManyAnswers", Rows.laid_loop_example_pub_messagesbuilt_pub_dnsmessage_errTooManyAnswers), ("loop.example/pub-messagesbuilt/pub/dnsmessage.errTooManyAuthorities", Rows.laid_loop_example_pub_messagesbuilt_pub_dnsmessage_errTooManyAuthorities), ("loop.example/pub-messagesbuilt/pub/dnsmessage.errTooManyAdditionals", Rows.laid_loop_example_pub_messagesbuilt_pub_dnsmessage_errTooManyAdditionals), ("loop.example/pub-messagesbuilt/pub/dnsmessage.errNonCanonicalName", Rows.laid_loop_example_pub_messagesbuilt_pub_dnsmessage_errNonCanonicalName)] [.sentinel, .sentinel, .sentinel, .sentinel, .sentinel, .sentinel, .sentinel, .sentinel, .sentinel, .sentinel, .sentinel] true :=
  Program.laidByTextLater_by_one 218 8 2 (by kernel_rfl) (by kernel_rfl) (by kernel_rfl) (by kernel_rfl) (by kernel_rfl) (by kernel_rfl) (fun _ _ => by kernel_rfl)
theorem noOwnUnsafe : Tryd.pinned.checked.prog.headLifts.contains "ownunsafe" = false := by kernel_rfl
theorem tie : Tryd.prog.laidByTextLater [("loop.example/pub-messagesbuilt/pub/dnsmessage.ErrNotStarted", Rows.laid_loop_example_pub_messagesbuilt_pub_dnsmessage_ErrNotStarted), ("loop.example/pub-messagesbuilt/pub/dnsmessage.ErrSectionDone", Rows.laid_loop_example_pub_messagesbuilt_pub_dnsmessage_ErrSectionDone), ("loop.example/pub-messagesbuilt/pub/dnsmessage.errSegTooLong", Rows.laid_loop_example_pub_messagesbuilt_pub_dnsmessage_errSegTooLong), ("loop.example/pub-messagesbuilt/pub/dnsmessage.errNameTooLong", Rows.laid_loop_example_pub_messagesbuilt_pub_dnsmessage_errNameTooLong), ("loop.example/pub-messagesbuilt/pub/dnsmessage.errZeroSegLen", Rows.laid_loop_example_pub_messagesbuilt_pub_dnsmessage_errZeroSegLen), ("loop.example/pub-messagesbuilt/pub/dnsmessage.errResTooLong", Rows.laid_loop_example_pub_messagesbuilt_pub_dnsmessage_errResTooLong), ("loop.example/pub-messagesbuilt/pub/dnsmessage.errTooManyQuestions", Rows.laid_loop_example_pub_messagesbuilt_pub_dnsmessage_errTooManyQuestions), ("loop.example/pub-messagesbuilt/pub/dnsmessage.errTooManyAnswers", Rows.laid_loop_example_pub_messagesbuilt_pub_dnsmessage_errTooManyAnswers), ("loop.example/pub-messagesbuilt/pub/dnsmessage.errTooManyAuthorities", Rows.laid_loop_example_pub_messagesbuilt_pub_dnsmessage_errTooManyAuthorities), ("loop.example/pub-messagesbuilt/pub/dnsmessage.errTooManyAdditionals", Rows.laid_loop_example_pub_messagesbuilt_pub_dnsmessage_errTooManyAdditionals), ("loop.example/pub-messagesbuilt/pub/dnsmessage.errNonCanonicalName", Rows.laid_loop_example_pub_messagesbuilt_pub_dnsmessage_errNonCanonicalName)] [.sentinel, .sentinel, .sentinel, .sentinel, .sentinel, .sentinel, .sentinel, .sentinel, .sentinel, .sentinel, .sentinel] true :=
  Program.laidByTextLater.sub seatTie1 ["loop.example/pub-messagesbuilt/pub/dnsmessage.ErrNotStarted", "loop.example/pub-messagesbuilt/pub/dnsmessage.ErrSectionDone", "loop.example/pub-messagesbuilt/pub/dnsmessage.errSegTooLong", "loop.example/pub-messagesbuilt/pub/dnsmessage.errNameTooLong", "loop.example/pub-messagesbuilt/pub/dnsmessage.errZeroSegLen", "loop.example/pub-messagesbuilt/pub/dnsmessage.errResTooLong", "loop.example/pub-messagesbuilt/pub/dnsmessage.errTooManyQuestions", "loop.example/pub-messagesbuilt/pub/dnsmessage.errTooManyAnswers", "loop.example/pub-messagesbuilt/pub/dnsmessage.errTooManyAuthorities", "loop.example/pub-messagesbuilt/pub/dnsmessage.errTooManyAdditionals", "loop.example/pub-messagesbuilt/pub/dnsmessage.errNonCanonicalName"] (by kernel_rfl) (by kernel_rfl)
theorem fnOwnerCNAME_row_tie : Rows.fnOwnerCNAMERow.laidByTextAt .later Tryd.pinned [.sentinel, .sentinel, .sentinel, .sentinel, .sentinel, .sentinel, .sentinel, .sentinel, .sentinel, .sentinel, .sentinel] true :=
  OpenClaim.laidByTextAt_later rfl rfl tie noOwnUnsafe
theorem fnFarPointers_row_tie : Rows.fnFarPointersRow.laidByTextAt .later Tryd.pinned [.sentinel, .sentinel, .sentinel, .sentinel, .sentinel, .sentinel, .sentinel, .sentinel, .sentinel, .sentinel, .sentinel] true :=
  OpenClaim.laidByTextAt_later rfl rfl tie noOwnUnsafe
theorem fnTooLong_row_tie : Rows.fnTooLongRow.laidByTextAt .later Tryd.pinned [.sentinel, .sentinel, .sentinel, .sentinel, .sentinel, .sentinel, .sentinel, .sentinel, .sentinel, .sentinel, .sentinel] true :=
  OpenClaim.laidByTextAt_later rfl rfl tie noOwnUnsafe
theorem fnBehindMX_row_tie : Rows.fnBehindMXRow.laidByTextAt .later Tryd.pinned [.sentinel, .sentinel, .sentinel, .sentinel, .sentinel, .sentinel, .sentinel, .sentinel, .sentinel, .sentinel, .sentinel] true :=
  OpenClaim.laidByTextAt_later rfl rfl tie noOwnUnsafe
theorem fnEarlyMX_row_tie : Rows.fnEarlyMXRow.laidByTextAt .later Tryd.pinned [.sentinel, .sentinel, .sentinel, .sentinel, .sentinel, .sentinel, .sentinel, .sentinel, .sentinel, .sentinel, .sentinel] true :=
  OpenClaim.laidByTextAt_later rfl rfl tie noOwnUnsafe
theorem fnHostMX_row_tie : Rows.fnHostMXRow.laidByTextAt .later Tryd.pinned [.sentinel, .sentinel, .sentinel, .sentinel, .sentinel, .sentinel, .sentinel, .sentinel, .sentinel, .sentinel, .sentinel] true :=
  OpenClaim.laidByTextAt_later rfl rfl tie noOwnUnsafe
theorem fnOwnerMX_row_tie : Rows.fnOwnerMXRow.laidByTextAt .later Tryd.pinned [.sentinel, .sentinel, .sentinel, .sentinel, .sentinel, .sentinel, .sentinel, .sentinel, .sentinel, .sentinel, .sentinel] true :=
  OpenClaim.laidByTextAt_later rfl rfl tie noOwnUnsafe
theorem fnPlainMX_row_tie : Rows.fnPlainMXRow.laidByTextAt .later Tryd.pinned [.sentinel, .sentinel, .sentinel, .sentinel, .sentinel, .sentinel, .sentinel, .sentinel, .sentinel, .sentinel, .sentinel] true :=
  OpenClaim.laidByTextAt_later rfl rfl tie noOwnUnsafe
theorem fnBehindSRV_row_tie : Rows.fnBehindSRVRow.laidByTextAt .later Tryd.pinned [.sentinel, .sentinel, .sentinel, .sentinel, .sentinel, .sentinel, .sentinel, .sentinel, .sentinel, .sentinel, .sentinel] true :=
  OpenClaim.laidByTextAt_later rfl rfl tie noOwnUnsafe
theorem fnEarlySRV_row_tie : Rows.fnEarlySRVRow.laidByTextAt .later Tryd.pinned [.sentinel, .sentinel, .sentinel, .sentinel, .sentinel, .sentinel, .sentinel, .sentinel, .sentinel, .sentinel, .sentinel] true :=
  OpenClaim.laidByTextAt_later rfl rfl tie noOwnUnsafe
theorem fnPlainSRV_row_tie : Rows.fnPlainSRVRow.laidByTextAt .later Tryd.pinned [.sentinel, .sentinel, .sentinel, .sentinel, .sentinel, .sentinel, .sentinel, .sentinel, .sentinel, .sentinel, .sentinel] true :=
  OpenClaim.laidByTextAt_later rfl rfl tie noOwnUnsafe
theorem fnWholeSRV_row_tie : Rows.fnWholeSRVRow.laidByTextAt .later Tryd.pinned [.sentinel, .sentinel, .sentinel, .sentinel, .sentinel, .sentinel, .sentinel, .sentinel, .sentinel, .sentinel, .sentinel] true :=
  OpenClaim.laidByTextAt_later rfl rfl tie noOwnUnsafe
theorem fnOwnerCNAMEUpto_row_tie : Rows.fnOwnerCNAMEUptoRow.laidByTextAt .later Tryd.pinned [.sentinel, .sentinel, .sentinel, .sentinel, .sentinel, .sentinel, .sentinel, .sentinel, .sentinel, .sentinel, .sentinel] true :=
  OpenClaim.laidByTextAt_later rfl rfl tie noOwnUnsafe
theorem fnFarPointersUpto_row_tie : Rows.fnFarPointersUptoRow.laidByTextAt .later Tryd.pinned [.sentinel, .sentinel, .sentinel, .sentinel, .sentinel, .sentinel, .sentinel, .sentinel, .sentinel, .sentinel, .sentinel] true :=
  OpenClaim.laidByTextAt_later rfl rfl tie noOwnUnsafe
theorem fnTooLongUpto_row_tie : Rows.fnTooLongUptoRow.laidByTextAt .later Tryd.pinned [.sentinel, .sentinel, .sentinel, .sentinel, .sentinel, .sentinel, .sentinel, .sentinel, .sentinel, .sentinel, .sentinel] true :=
  OpenClaim.laidByTextAt_later rfl rfl tie noOwnUnsafe
theorem fnBehindMXUpto_row_tie : Rows.fnBehindMXUptoRow.laidByTextAt .later Tryd.pinned [.sentinel, .sentinel, .sentinel, .sentinel, .sentinel, .sentinel, .sentinel, .sentinel, .sentinel, .sentinel, .sentinel] true :=
  OpenClaim.laidByTextAt_later rfl rfl tie noOwnUnsafe
theorem fnEarlyMXUpto_row_tie : Rows.fnEarlyMXUptoRow.laidByTextAt .later Tryd.pinned [.sentinel, .sentinel, .sentinel, .sentinel, .sentinel, .sentinel, .sentinel, .sentinel, .sentinel, .sentinel, .sentinel] true :=
  OpenClaim.laidByTextAt_later rfl rfl tie noOwnUnsafe
theorem fnHostMXUpto_row_tie : Rows.fnHostMXUptoRow.laidByTextAt .later Tryd.pinned [.sentinel, .sentinel, .sentinel, .sentinel, .sentinel, .sentinel, .sentinel, .sentinel, .sentinel, .sentinel, .sentinel] true :=
  OpenClaim.laidByTextAt_later rfl rfl tie noOwnUnsafe
theorem fnOwnerMXUpto_row_tie : Rows.fnOwnerMXUptoRow.laidByTextAt .later Tryd.pinned [.sentinel, .sentinel, .sentinel, .sentinel, .sentinel, .sentinel, .sentinel, .sentinel, .sentinel, .sentinel, .sentinel] true :=
  OpenClaim.laidByTextAt_later rfl rfl tie noOwnUnsafe
theorem fnPlainMXUpto_row_tie : Rows.fnPlainMXUptoRow.laidByTextAt .later Tryd.pinned [.sentinel, .sentinel, .sentinel, .sentinel, .sentinel, .sentinel, .sentinel, .sentinel, .sentinel, .sentinel, .sentinel] true :=
  OpenClaim.laidByTextAt_later rfl rfl tie noOwnUnsafe
theorem fnBehindSRVUpto_row_tie : Rows.fnBehindSRVUptoRow.laidByTextAt .later Tryd.pinned [.sentinel, .sentinel, .sentinel, .sentinel, .sentinel, .sentinel, .sentinel, .sentinel, .sentinel, .sentinel, .sentinel] true :=
  OpenClaim.laidByTextAt_later rfl rfl tie noOwnUnsafe
theorem fnEarlySRVUpto_row_tie : Rows.fnEarlySRVUptoRow.laidByTextAt .later Tryd.pinned [.sentinel, .sentinel, .sentinel, .sentinel, .sentinel, .sentinel, .sentinel, .sentinel, .sentinel, .sentinel, .sentinel] true :=
  OpenClaim.laidByTextAt_later rfl rfl tie noOwnUnsafe
theorem fnPlainSRVUpto_row_tie : Rows.fnPlainSRVUptoRow.laidByTextAt .later Tryd.pinned [.sentinel, .sentinel, .sentinel, .sentinel, .sentinel, .sentinel, .sentinel, .sentinel, .sentinel, .sentinel, .sentinel] true :=
  OpenClaim.laidByTextAt_later rfl rfl tie noOwnUnsafe
theorem fnWholeSRVUpto_row_tie : Rows.fnWholeSRVUptoRow.laidByTextAt .later Tryd.pinned [.sentinel, .sentinel, .sentinel, .sentinel, .sentinel, .sentinel, .sentinel, .sentinel, .sentinel, .sentinel, .sentinel] true :=
  OpenClaim.laidByTextAt_later rfl rfl tie noOwnUnsafe
end Go.Proofs.YthdjgcegpkjhmaaDoor
