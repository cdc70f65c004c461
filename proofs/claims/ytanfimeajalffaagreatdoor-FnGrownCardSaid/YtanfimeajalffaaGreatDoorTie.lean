/-
  DERIVED. GIVEN WITH THE SEED: THE PROGRAM's TIES (one call each: nine closed facts by the kernel) AND EACH ROW's TIE, after the 31st guide's Derived/Test/Toyas{Tie, Card}.lean. No idea stands in it: it is a product of the set-up. Laid BY PROGRAM, IN A SANDBOX (cutbox-door.mjs). By AI agents, Wed Nov 11 2026. No macro, syntax, notation, axiom, sorry.
-/
import Derived.Test.YtanfimeajalffaaGreatDoorRows
import Derived.LaidByTextLater
import Derived.SevenTiedAt
import Derived.LaidSub
import Derived.LaidOnce
namespace Go.Proofs.YtanfimeajalffaaGreatDoor
open Go
set_option maxRecDepth 100000
theorem seatTie1 : Tryz.prog.laidByTextLater [("loop.example/pub-g01467/pub/modindex.errCorrupt", Rows.laid_loop_example_pub_g01467_pub_modindex_errCorrupt), ("loop.example/pub-g01467/pub/modindex.errCannotFindPackage", Rows.laid_loop_example_pub_g01467_pub_modindex_errCannotFindPackage)] [.sentinel, .sentinel] true :=
  Program.laidByTextLater_by_one 47 8 2 (by kernel_rfl) (by kernel_rfl) (by kernel_rfl) (by kernel_rfl) (by kernel_rfl) (by kernel_rfl) (fun _ _ => by kernel_rfl)
theorem noOwnUnsafe : Tryz.pinned.checked.prog.headLifts.contains "ownunsafe" = false := by kernel_rfl
theorem tie : Tryz.prog.laidByTextLater [("loop.example/pub-g01467/pub/modindex.errCorrupt", Rows.laid_loop_example_pub_g01467_pub_modindex_errCorrupt)] [.sentinel] true :=
  Program.laidByTextLater.sub seatTie1 ["loop.example/pub-g01467/pub/modindex.errCorrupt"] (by kernel_rfl) (by kernel_rfl)
theorem fnBack_row_tie : Rows.fnBackRow.laidByTextAt .later Tryz.pinned [.sentinel] true :=
  OpenClaim.laidByTextAt_later rfl rfl tie noOwnUnsafe
theorem tie2 : Tryz.prog.laidByTextLater [("loop.example/pub-g01467/pub/modindex.errCorrupt", Rows.laid_loop_example_pub_g01467_pub_modindex_errCorrupt), ("loop.example/pub-g01467/pub/modindex.errCannotFindPackage", Rows.laid_loop_example_pub_g01467_pub_modindex_errCannotFindPackage)] [.sentinel, .sentinel] true :=
  Program.laidByTextLater.sub seatTie1 ["loop.example/pub-g01467/pub/modindex.errCorrupt", "loop.example/pub-g01467/pub/modindex.errCannotFindPackage"] (by kernel_rfl) (by kernel_rfl)
theorem fnFind_row_tie : Rows.fnFindRow.laidByTextAt .later Tryz.pinned [.sentinel, .sentinel] true :=
  OpenClaim.laidByTextAt_later rfl rfl tie2 noOwnUnsafe
theorem fnGrown_row_tie : Rows.fnGrownRow.laidByTextAt .later Tryz.pinned [.sentinel, .sentinel] true :=
  OpenClaim.laidByTextAt_later rfl rfl tie2 noOwnUnsafe
theorem fnFindAll_row_tie : Rows.fnFindAllRow.laidByTextAt .later Tryz.pinned [.sentinel, .sentinel] true :=
  OpenClaim.laidByTextAt_later rfl rfl tie2 noOwnUnsafe
theorem fnBackUpto_row_tie : Rows.fnBackUptoRow.laidByTextAt .later Tryz.pinned [.sentinel] true :=
  OpenClaim.laidByTextAt_later rfl rfl tie noOwnUnsafe
theorem fnFindUpto_row_tie : Rows.fnFindUptoRow.laidByTextAt .later Tryz.pinned [.sentinel, .sentinel] true :=
  OpenClaim.laidByTextAt_later rfl rfl tie2 noOwnUnsafe
theorem fnGrownUpto_row_tie : Rows.fnGrownUptoRow.laidByTextAt .later Tryz.pinned [.sentinel, .sentinel] true :=
  OpenClaim.laidByTextAt_later rfl rfl tie2 noOwnUnsafe
theorem fnFindAllUpto_row_tie : Rows.fnFindAllUptoRow.laidByTextAt .later Tryz.pinned [.sentinel, .sentinel] true :=
  OpenClaim.laidByTextAt_later rfl rfl tie2 noOwnUnsafe
end Go.Proofs.YtanfimeajalffaaGreatDoor
