/-
  DERIVED. GIVEN WITH THE SEED: THE PROGRAM's TIES (one call each: nine closed facts by the kernel) AND EACH ROW's TIE, after the 31st guide's Derived/Test/Toyas{Tie, Card}.lean. No idea stands in it: it is a product of the set-up. Laid BY PROGRAM, IN A SANDBOX (cutbox-door.mjs). By AI agents, Wed Nov 11 2026. No macro, syntax, notation, axiom, sorry.
-/
import Derived.Test.YtndhiemagankeaaGreatDoorRows
import Derived.LaidByTextLater
import Derived.SevenTiedAt
import Derived.LaidSub
import Derived.LaidOnce
namespace Go.Proofs.YtndhiemagankeaaGreatDoor
open Go
set_option maxRecDepth 100000
theorem seatTie1 : Tryz.prog.laidByTextLater [("loop.example/pub-layouttheorem/pub/gotime.std0x", Rows.laid_loop_example_pub_layouttheorem_pub_gotime_std0x), ("loop.example/pub-layouttheorem/pub/gotime.errAtoi", Rows.laid_loop_example_pub_layouttheorem_pub_gotime_errAtoi), ("loop.example/pub-layouttheorem/pub/gotime.errBad", Rows.laid_loop_example_pub_layouttheorem_pub_gotime_errBad), ("loop.example/pub-layouttheorem/pub/gotime.errLeadingInt", Rows.laid_loop_example_pub_layouttheorem_pub_gotime_errLeadingInt)] [.data, .sentinel, .sentinel, .sentinel] true :=
  Program.laidByTextLater_by_one 71 8 7 (by kernel_rfl) (by kernel_rfl) (by kernel_rfl) (by kernel_rfl) (by kernel_rfl) (by kernel_rfl) (fun _ _ => by kernel_rfl)
theorem noOwnUnsafe : Tryz.pinned.checked.prog.headLifts.contains "ownunsafe" = false := by kernel_rfl
theorem tie : Tryz.prog.laidByTextLater [("loop.example/pub-layouttheorem/pub/gotime.std0x", Rows.laid_loop_example_pub_layouttheorem_pub_gotime_std0x), ("loop.example/pub-layouttheorem/pub/gotime.errAtoi", Rows.laid_loop_example_pub_layouttheorem_pub_gotime_errAtoi), ("loop.example/pub-layouttheorem/pub/gotime.errBad", Rows.laid_loop_example_pub_layouttheorem_pub_gotime_errBad), ("loop.example/pub-layouttheorem/pub/gotime.errLeadingInt", Rows.laid_loop_example_pub_layouttheorem_pub_gotime_errLeadingInt)] [.data, .sentinel, .sentinel, .sentinel] true :=
  Program.laidByTextLater.sub seatTie1 ["loop.example/pub-layouttheorem/pub/gotime.std0x", "loop.example/pub-layouttheorem/pub/gotime.errAtoi", "loop.example/pub-layouttheorem/pub/gotime.errBad", "loop.example/pub-layouttheorem/pub/gotime.errLeadingInt"] (by kernel_rfl) (by kernel_rfl)
theorem fnLayout_row_tie : Rows.fnLayoutRow.laidByTextAt .later Tryz.pinned [.data, .sentinel, .sentinel, .sentinel] true :=
  OpenClaim.laidByTextAt_later rfl rfl tie noOwnUnsafe
theorem fnLayoutUpto_row_tie : Rows.fnLayoutUptoRow.laidByTextAt .later Tryz.pinned [.data, .sentinel, .sentinel, .sentinel] true :=
  OpenClaim.laidByTextAt_later rfl rfl tie noOwnUnsafe
end Go.Proofs.YtndhiemagankeaaGreatDoor
