/-
  DERIVED. GIVEN WITH THE SEED: THE PROGRAM's TIES (one call each: nine closed facts by the kernel) AND EACH ROW's TIE, after the 31st guide's Derived/Test/Toyas{Tie, Card}.lean. No idea stands in it: it is a product of the set-up. Laid BY PROGRAM, IN A SANDBOX (cutbox-door.mjs). By AI agents, Wed Nov 11 2026. No macro, syntax, notation, axiom, sorry.
-/
import Derived.Test.YtcghdanppdmfeaaDoorRows
import Derived.LaidByTextLater
import Derived.SevenTiedAt
import Derived.LaidSub
import Derived.LaidOnce
namespace Go.Proofs.YtcghdanppdmfeaaDoor
open Go
set_option maxRecDepth 100000
theorem seatTie1 : Tryd.prog.laidByTextLater [("loop.example/pub-g01475/pub/tdparse.URLEncodingTable", Rows.laid_loop_example_pub_g01475_pub_tdparse_URLEncodingTable), ("loop.example/pub-g01475/pub/tdparse.DataURIEncodingTable", Rows.laid_loop_example_pub_g01475_pub_tdparse_DataURIEncodingTable)] [.data, .data] true :=
  Program.laidByTextLater_by_one 19 8 257 (by kernel_rfl) (by kernel_rfl) (by kernel_rfl) (by kernel_rfl) (by kernel_rfl) (by kernel_rfl) (fun _ _ => by kernel_rfl)
theorem noOwnUnsafe : Tryd.pinned.checked.prog.headLifts.contains "ownunsafe" = false := by kernel_rfl
theorem tie : Tryd.prog.laidByTextLater [("loop.example/pub-g01475/pub/tdparse.URLEncodingTable", Rows.laid_loop_example_pub_g01475_pub_tdparse_URLEncodingTable), ("loop.example/pub-g01475/pub/tdparse.DataURIEncodingTable", Rows.laid_loop_example_pub_g01475_pub_tdparse_DataURIEncodingTable)] [.data, .data] true :=
  Program.laidByTextLater.sub seatTie1 ["loop.example/pub-g01475/pub/tdparse.URLEncodingTable", "loop.example/pub-g01475/pub/tdparse.DataURIEncodingTable"] (by kernel_rfl) (by kernel_rfl)
theorem fnUrlTable_row_tie : Rows.fnUrlTableRow.laidByTextAt .later Tryd.pinned [.data, .data] true :=
  OpenClaim.laidByTextAt_later rfl rfl tie noOwnUnsafe
theorem fnUrlEncode_row_tie : Rows.fnUrlEncodeRow.laidByTextAt .later Tryd.pinned [.data, .data] true :=
  OpenClaim.laidByTextAt_later rfl rfl tie noOwnUnsafe
theorem fnUrlBack_row_tie : Rows.fnUrlBackRow.laidByTextAt .later Tryd.pinned [.data, .data] true :=
  OpenClaim.laidByTextAt_later rfl rfl tie noOwnUnsafe
theorem fnUrlBackData_row_tie : Rows.fnUrlBackDataRow.laidByTextAt .later Tryd.pinned [.data, .data] true :=
  OpenClaim.laidByTextAt_later rfl rfl tie noOwnUnsafe
theorem fnUrlTableUpto_row_tie : Rows.fnUrlTableUptoRow.laidByTextAt .later Tryd.pinned [.data, .data] true :=
  OpenClaim.laidByTextAt_later rfl rfl tie noOwnUnsafe
theorem fnUrlEncodeUpto_row_tie : Rows.fnUrlEncodeUptoRow.laidByTextAt .later Tryd.pinned [.data, .data] true :=
  OpenClaim.laidByTextAt_later rfl rfl tie noOwnUnsafe
theorem fnUrlBackUpto_row_tie : Rows.fnUrlBackUptoRow.laidByTextAt .later Tryd.pinned [.data, .data] true :=
  OpenClaim.laidByTextAt_later rfl rfl tie noOwnUnsafe
theorem fnUrlBackDataUpto_row_tie : Rows.fnUrlBackDataUptoRow.laidByTextAt .later Tryd.pinned [.data, .data] true :=
  OpenClaim.laidByTextAt_later rfl rfl tie noOwnUnsafe
end Go.Proofs.YtcghdanppdmfeaaDoor
