/-
  DERIVED. GIVEN WITH THE SEED: THE PROGRAM's TIES (one call each: nine closed facts by the kernel) AND EACH ROW's TIE, after the 31st guide's Derived/Test/Toyas{Tie, Card}.lean. No idea stands in it: it is a product of the set-up. Laid BY PROGRAM, IN A SANDBOX (cutbox-door.mjs). By AI agents, Wed Nov 11 2026. No macro, syntax, notation, axiom, sorry.
-/
import Derived.Test.YtmpgbakkpbmpiaaDoorRows
import Derived.LaidByTextLater
import Derived.SevenTiedAt
import Derived.LaidSub
import Derived.LaidOnce
namespace Go.Proofs.YtmpgbakkpbmpiaaDoor
open Go
set_option maxRecDepth 100000
theorem seatTie1 : Tryd.prog.laidByTextLater [("math.pow10tab", Rows.laid_math_pow10tab), ("math.pow10postab32", Rows.laid_math_pow10postab32), ("math.pow10negtab32", Rows.laid_math_pow10negtab32), ("loop.example/pub-g01475/pub/tdstrconv.float64pow10", Rows.laid_loop_example_pub_g01475_pub_tdstrconv_float64pow10), ("loop.example/pub-g01475/pub/tdstrconv.int64pow10", Rows.laid_loop_example_pub_g01475_pub_tdstrconv_int64pow10)] [.data, .data, .data, .data, .data] true :=
  Program.laidByTextLater_by_one 34 8 33 (by kernel_rfl) (by kernel_rfl) (by kernel_rfl) (by kernel_rfl) (by kernel_rfl) (by kernel_rfl) (fun _ _ => by kernel_rfl)
theorem noOwnUnsafe : Tryd.pinned.checked.prog.headLifts.contains "ownunsafe" = false := by kernel_rfl
theorem tie : Tryd.prog.laidByTextLater [("math.pow10tab", Rows.laid_math_pow10tab), ("math.pow10postab32", Rows.laid_math_pow10postab32), ("math.pow10negtab32", Rows.laid_math_pow10negtab32), ("loop.example/pub-g01475/pub/tdstrconv.float64pow10", Rows.laid_loop_example_pub_g01475_pub_tdstrconv_float64pow10)] [.data, .data, .data, .data] true :=
  Program.laidByTextLater.sub seatTie1 ["math.pow10tab", "math.pow10postab32", "math.pow10negtab32", "loop.example/pub-g01475/pub/tdstrconv.float64pow10"] (by kernel_rfl) (by kernel_rfl)
theorem fnNumberFloatLength_row_tie : Rows.fnNumberFloatLengthRow.laidByTextAt .later Tryd.pinned [.data, .data, .data, .data] true :=
  OpenClaim.laidByTextAt_later rfl rfl tie noOwnUnsafe
theorem tie2 : Tryd.prog.laidByTextLater [("math.pow10tab", Rows.laid_math_pow10tab), ("math.pow10postab32", Rows.laid_math_pow10postab32), ("math.pow10negtab32", Rows.laid_math_pow10negtab32), ("loop.example/pub-g01475/pub/tdstrconv.float64pow10", Rows.laid_loop_example_pub_g01475_pub_tdstrconv_float64pow10), ("loop.example/pub-g01475/pub/tdstrconv.int64pow10", Rows.laid_loop_example_pub_g01475_pub_tdstrconv_int64pow10)] [.data, .data, .data, .data, .data] true :=
  Program.laidByTextLater.sub seatTie1 ["math.pow10tab", "math.pow10postab32", "math.pow10negtab32", "loop.example/pub-g01475/pub/tdstrconv.float64pow10", "loop.example/pub-g01475/pub/tdstrconv.int64pow10"] (by kernel_rfl) (by kernel_rfl)
theorem fnNumberDecimalNear_row_tie : Rows.fnNumberDecimalNearRow.laidByTextAt .later Tryd.pinned [.data, .data, .data, .data, .data] true :=
  OpenClaim.laidByTextAt_later rfl rfl tie2 noOwnUnsafe
theorem tie3 : Tryd.prog.laidByTextLater [("math.pow10tab", Rows.laid_math_pow10tab), ("math.pow10postab32", Rows.laid_math_pow10postab32), ("math.pow10negtab32", Rows.laid_math_pow10negtab32), ("loop.example/pub-g01475/pub/tdstrconv.int64pow10", Rows.laid_loop_example_pub_g01475_pub_tdstrconv_int64pow10)] [.data, .data, .data, .data] true :=
  Program.laidByTextLater.sub seatTie1 ["math.pow10tab", "math.pow10postab32", "math.pow10negtab32", "loop.example/pub-g01475/pub/tdstrconv.int64pow10"] (by kernel_rfl) (by kernel_rfl)
theorem fnNumberFloatText_row_tie : Rows.fnNumberFloatTextRow.laidByTextAt .later Tryd.pinned [.data, .data, .data, .data] true :=
  OpenClaim.laidByTextAt_later rfl rfl tie3 noOwnUnsafe
theorem fnNumberFloatLengthUpto_row_tie : Rows.fnNumberFloatLengthUptoRow.laidByTextAt .later Tryd.pinned [.data, .data, .data, .data] true :=
  OpenClaim.laidByTextAt_later rfl rfl tie noOwnUnsafe
theorem fnNumberDecimalNearUpto_row_tie : Rows.fnNumberDecimalNearUptoRow.laidByTextAt .later Tryd.pinned [.data, .data, .data, .data, .data] true :=
  OpenClaim.laidByTextAt_later rfl rfl tie2 noOwnUnsafe
theorem fnNumberFloatTextUpto_row_tie : Rows.fnNumberFloatTextUptoRow.laidByTextAt .later Tryd.pinned [.data, .data, .data, .data] true :=
  OpenClaim.laidByTextAt_later rfl rfl tie3 noOwnUnsafe
end Go.Proofs.YtmpgbakkpbmpiaaDoor
