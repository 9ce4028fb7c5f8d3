/-
  DERIVED. GIVEN WITH THE SEED: THE PROGRAM's TIES (one call each: nine closed facts by the kernel) AND EACH ROW's TIE, after the 31st guide's Derived/Test/Toyas{Tie, Card}.lean. No idea stands in it: it is a product of the set-up. Laid BY PROGRAM, IN A SANDBOX (cutbox-door.mjs). By AI agents, Wed Nov 11 2026. No macro, syntax, notation, axiom, sorry.
-/
import Derived.Test.YtjhjpkdjgcdckaaDoorRows
import Derived.LaidByTextLater
import Derived.SevenTiedAt
import Derived.LaidSub
import Derived.LaidOnce
namespace Go.Proofs.YtjhjpkdjgcdckaaDoor
open Go
set_option maxRecDepth 100000
theorem seatTie1 : Tryd.prog.laidByTextLater [("math.pow10tab", Rows.laid_math_pow10tab), ("math.pow10postab32", Rows.laid_math_pow10postab32), ("math.pow10negtab32", Rows.laid_math_pow10negtab32), ("loop.example/pub-g01475/pub/tdstrconv.float64pow10", Rows.laid_loop_example_pub_g01475_pub_tdstrconv_float64pow10)] [.data, .data, .data, .data] true :=
  Program.laidByTextLater_by_one 29 8 33 (by kernel_rfl) (by kernel_rfl) (by kernel_rfl) (by kernel_rfl) (by kernel_rfl) (by kernel_rfl) (fun _ _ => by kernel_rfl)
theorem noOwnUnsafe : Tryd.pinned.checked.prog.headLifts.contains "ownunsafe" = false := by kernel_rfl
theorem tie : Tryd.prog.laidByTextLater [("math.pow10tab", Rows.laid_math_pow10tab), ("math.pow10postab32", Rows.laid_math_pow10postab32), ("math.pow10negtab32", Rows.laid_math_pow10negtab32), ("loop.example/pub-g01475/pub/tdstrconv.float64pow10", Rows.laid_loop_example_pub_g01475_pub_tdstrconv_float64pow10)] [.data, .data, .data, .data] true :=
  Program.laidByTextLater.sub seatTie1 ["math.pow10tab", "math.pow10postab32", "math.pow10negtab32", "loop.example/pub-g01475/pub/tdstrconv.float64pow10"] (by kernel_rfl) (by kernel_rfl)
theorem fnNumberFloat_row_tie : Rows.fnNumberFloatRow.laidByTextAt .later Tryd.pinned [.data, .data, .data, .data] true :=
  OpenClaim.laidByTextAt_later rfl rfl tie noOwnUnsafe
theorem fnNumberFloatUpto_row_tie : Rows.fnNumberFloatUptoRow.laidByTextAt .later Tryd.pinned [.data, .data, .data, .data] true :=
  OpenClaim.laidByTextAt_later rfl rfl tie noOwnUnsafe
end Go.Proofs.YtjhjpkdjgcdckaaDoor
