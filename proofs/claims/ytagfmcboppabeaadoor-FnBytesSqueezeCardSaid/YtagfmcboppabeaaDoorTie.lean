/-
  DERIVED. GIVEN WITH THE SEED: THE PROGRAM's TIES (one call each: nine closed facts by the kernel) AND EACH ROW's TIE, after the 31st guide's Derived/Test/Toyas{Tie, Card}.lean. No idea stands in it: it is a product of the set-up. Laid BY PROGRAM, IN A SANDBOX (cutbox-door.mjs). By AI agents, Wed Nov 11 2026. No macro, syntax, notation, axiom, sorry.
-/
import Derived.Test.YtagfmcboppabeaaDoorRows
import Derived.LaidByTextLater
import Derived.SevenTiedAt
import Derived.LaidSub
import Derived.LaidOnce
namespace Go.Proofs.YtagfmcboppabeaaDoor
open Go
set_option maxRecDepth 100000
theorem seatTie1 : Tryd.prog.laidByTextLater [("loop.example/pub-g01475/pub/tdparse.whitespaceTable", Rows.laid_loop_example_pub_g01475_pub_tdparse_whitespaceTable), ("loop.example/pub-g01475/pub/tdparse.newlineTable", Rows.laid_loop_example_pub_g01475_pub_tdparse_newlineTable)] [.data, .data] true :=
  Program.laidByTextLater_by_one 19 8 257 (by kernel_rfl) (by kernel_rfl) (by kernel_rfl) (by kernel_rfl) (by kernel_rfl) (by kernel_rfl) (fun _ _ => by kernel_rfl)
theorem noOwnUnsafe : Tryd.pinned.checked.prog.headLifts.contains "ownunsafe" = false := by kernel_rfl
theorem tie : Tryd.prog.laidByTextLater [("loop.example/pub-g01475/pub/tdparse.whitespaceTable", Rows.laid_loop_example_pub_g01475_pub_tdparse_whitespaceTable), ("loop.example/pub-g01475/pub/tdparse.newlineTable", Rows.laid_loop_example_pub_g01475_pub_tdparse_newlineTable)] [.data, .data] true :=
  Program.laidByTextLater.sub seatTie1 ["loop.example/pub-g01475/pub/tdparse.whitespaceTable", "loop.example/pub-g01475/pub/tdparse.newlineTable"] (by kernel_rfl) (by kernel_rfl)
theorem fnBytesSqueeze_row_tie : Rows.fnBytesSqueezeRow.laidByTextAt .later Tryd.pinned [.data, .data] true :=
  OpenClaim.laidByTextAt_later rfl rfl tie noOwnUnsafe
theorem fnBytesSqueezeOnce_row_tie : Rows.fnBytesSqueezeOnceRow.laidByTextAt .later Tryd.pinned [.data, .data] true :=
  OpenClaim.laidByTextAt_later rfl rfl tie noOwnUnsafe
theorem fnBytesSqueezeUpto_row_tie : Rows.fnBytesSqueezeUptoRow.laidByTextAt .later Tryd.pinned [.data, .data] true :=
  OpenClaim.laidByTextAt_later rfl rfl tie noOwnUnsafe
theorem fnBytesSqueezeOnceUpto_row_tie : Rows.fnBytesSqueezeOnceUptoRow.laidByTextAt .later Tryd.pinned [.data, .data] true :=
  OpenClaim.laidByTextAt_later rfl rfl tie noOwnUnsafe
end Go.Proofs.YtagfmcboppabeaaDoor
