/-
  DERIVED. GIVEN WITH THE SEED: THE PROGRAM's TIES (one call each: nine closed facts by the kernel) AND EACH ROW's TIE, after the 31st guide's Derived/Test/Toyas{Tie, Card}.lean. No idea stands in it: it is a product of the set-up. Laid BY PROGRAM, IN A SANDBOX (cutbox-door.mjs). By AI agents, Wed Nov 11 2026. No macro, syntax, notation, axiom, sorry.
-/
import Derived.Test.YthejmpldfndbfaaDoorRows
import Derived.LaidByTextLater
import Derived.SevenTiedAt
import Derived.LaidSub
import Derived.LaidOnce
namespace Go.Proofs.YthejmpldfndbfaaDoor
open Go
set_option maxRecDepth 100000
theorem seatTie1 : Tryd.prog.laidByTextLater [("loop.example/pub-g01475/pub/tdparse.ErrBadDataURI", Rows.laid_loop_example_pub_g01475_pub_tdparse_ErrBadDataURI), ("loop.example/pub-g01475/pub/tdparse.whitespaceTable", Rows.laid_loop_example_pub_g01475_pub_tdparse_whitespaceTable)] [.sentinel, .data] true :=
  Program.laidByTextLater_by_one 43 8 257 (by kernel_rfl) (by kernel_rfl) (by kernel_rfl) (by kernel_rfl) (by kernel_rfl) (by kernel_rfl) (fun _ _ => by kernel_rfl)
theorem seatTie2 : Tryd.prog.laidByTextLater [("loop.example/pub-g01475/pub/tdparse.URLEncodingTable", Rows.laid_loop_example_pub_g01475_pub_tdparse_URLEncodingTable), ("loop.example/pub-g01475/pub/tdparse.whitespaceTable", Rows.laid_loop_example_pub_g01475_pub_tdparse_whitespaceTable)] [.data, .data] true :=
  Program.laidByTextLater_by_one 43 8 257 (by kernel_rfl) (by kernel_rfl) (by kernel_rfl) (by kernel_rfl) (by kernel_rfl) (by kernel_rfl) (fun _ _ => by kernel_rfl)
theorem noOwnUnsafe : Tryd.pinned.checked.prog.headLifts.contains "ownunsafe" = false := by kernel_rfl
theorem tie : Tryd.prog.laidByTextLater [("loop.example/pub-g01475/pub/tdparse.ErrBadDataURI", Rows.laid_loop_example_pub_g01475_pub_tdparse_ErrBadDataURI), ("loop.example/pub-g01475/pub/tdparse.whitespaceTable", Rows.laid_loop_example_pub_g01475_pub_tdparse_whitespaceTable)] [.sentinel, .data] true :=
  Program.laidByTextLater.sub seatTie1 ["loop.example/pub-g01475/pub/tdparse.ErrBadDataURI", "loop.example/pub-g01475/pub/tdparse.whitespaceTable"] (by kernel_rfl) (by kernel_rfl)
theorem fnUrlNoData_row_tie : Rows.fnUrlNoDataRow.laidByTextAt .later Tryd.pinned [.sentinel, .data] true :=
  OpenClaim.laidByTextAt_later rfl rfl tie noOwnUnsafe
theorem tie2 : Tryd.prog.laidByTextLater [("loop.example/pub-g01475/pub/tdparse.URLEncodingTable", Rows.laid_loop_example_pub_g01475_pub_tdparse_URLEncodingTable), ("loop.example/pub-g01475/pub/tdparse.whitespaceTable", Rows.laid_loop_example_pub_g01475_pub_tdparse_whitespaceTable)] [.data, .data] true :=
  Program.laidByTextLater.sub seatTie2 ["loop.example/pub-g01475/pub/tdparse.URLEncodingTable", "loop.example/pub-g01475/pub/tdparse.whitespaceTable"] (by kernel_rfl) (by kernel_rfl)
theorem fnUrlData_row_tie : Rows.fnUrlDataRow.laidByTextAt .later Tryd.pinned [.data, .data] true :=
  OpenClaim.laidByTextAt_later rfl rfl tie2 noOwnUnsafe
theorem fnUrlNoDataUpto_row_tie : Rows.fnUrlNoDataUptoRow.laidByTextAt .later Tryd.pinned [.sentinel, .data] true :=
  OpenClaim.laidByTextAt_later rfl rfl tie noOwnUnsafe
theorem fnUrlDataUpto_row_tie : Rows.fnUrlDataUptoRow.laidByTextAt .later Tryd.pinned [.data, .data] true :=
  OpenClaim.laidByTextAt_later rfl rfl tie2 noOwnUnsafe
end Go.Proofs.YthejmpldfndbfaaDoor
