/-
  DERIVED. GIVEN WITH THE SEED: THE PROGRAM's TIES (one call each: nine closed facts by the kernel) AND EACH ROW's TIE, after the 31st guide's Derived/Test/Toyas{Tie, Card}.lean. No idea stands in it: it is a product of the set-up. Laid BY PROGRAM, IN A SANDBOX (cutbox-door.mjs). By AI agents, Wed Nov 11 2026. No macro, syntax, notation, axiom, sorry.
-/
import Derived.Test.YtbhcdkbcbcmomaaDoorRows
import Derived.LaidByTextLater
import Derived.SevenTiedAt
import Derived.LaidSub
import Derived.LaidOnce
namespace Go.Proofs.YtbhcdkbcbcmomaaDoor
open Go
set_option maxRecDepth 100000
theorem seatTie1 : Tryd.prog.laidByTextLater [("loop.example/pub-g01444/pub/compress/inner/snapref.ErrCorrupt", Rows.laid_loop_example_pub_g01444_pub_compress_inner_snapref_ErrCorrupt), ("loop.example/pub-g01444/pub/compress/inner/snapref.ErrTooLarge", Rows.laid_loop_example_pub_g01444_pub_compress_inner_snapref_ErrTooLarge), ("loop.example/pub-g01444/pub/compress/inner/snapref.errUnsupportedLiteralLength", Rows.laid_loop_example_pub_g01444_pub_compress_inner_snapref_errUnsupportedLiteralLength)] [.sentinel, .sentinel, .sentinel] true :=
  Program.laidByTextLater_by_one 66 8 2 (by kernel_rfl) (by kernel_rfl) (by kernel_rfl) (by kernel_rfl) (by kernel_rfl) (by kernel_rfl) (fun _ _ => by kernel_rfl)
theorem noOwnUnsafe : Tryd.pinned.checked.prog.headLifts.contains "ownunsafe" = false := by kernel_rfl
theorem tie : Tryd.prog.laidByTextLater [("loop.example/pub-g01444/pub/compress/inner/snapref.ErrTooLarge", Rows.laid_loop_example_pub_g01444_pub_compress_inner_snapref_ErrTooLarge)] [.sentinel] true :=
  Program.laidByTextLater.sub seatTie1 ["loop.example/pub-g01444/pub/compress/inner/snapref.ErrTooLarge"] (by kernel_rfl) (by kernel_rfl)
theorem fnSnappyEncode_row_tie : Rows.fnSnappyEncodeRow.laidByTextAt .later Tryd.pinned [.sentinel] true :=
  OpenClaim.laidByTextAt_later rfl rfl tie noOwnUnsafe
theorem tie2 : Tryd.prog.laidByTextLater [("loop.example/pub-g01444/pub/compress/inner/snapref.ErrCorrupt", Rows.laid_loop_example_pub_g01444_pub_compress_inner_snapref_ErrCorrupt), ("loop.example/pub-g01444/pub/compress/inner/snapref.ErrTooLarge", Rows.laid_loop_example_pub_g01444_pub_compress_inner_snapref_ErrTooLarge), ("loop.example/pub-g01444/pub/compress/inner/snapref.errUnsupportedLiteralLength", Rows.laid_loop_example_pub_g01444_pub_compress_inner_snapref_errUnsupportedLiteralLength)] [.sentinel, .sentinel, .sentinel] true :=
  Program.laidByTextLater.sub seatTie1 ["loop.example/pub-g01444/pub/compress/inner/snapref.ErrCorrupt", "loop.example/pub-g01444/pub/compress/inner/snapref.ErrTooLarge", "loop.example/pub-g01444/pub/compress/inner/snapref.errUnsupportedLiteralLength"] (by kernel_rfl) (by kernel_rfl)
theorem fnSnappyBack_row_tie : Rows.fnSnappyBackRow.laidByTextAt .later Tryd.pinned [.sentinel, .sentinel, .sentinel] true :=
  OpenClaim.laidByTextAt_later rfl rfl tie2 noOwnUnsafe
theorem fnSnappyEncodeUpto_row_tie : Rows.fnSnappyEncodeUptoRow.laidByTextAt .later Tryd.pinned [.sentinel] true :=
  OpenClaim.laidByTextAt_later rfl rfl tie noOwnUnsafe
theorem fnSnappyBackUpto_row_tie : Rows.fnSnappyBackUptoRow.laidByTextAt .later Tryd.pinned [.sentinel, .sentinel, .sentinel] true :=
  OpenClaim.laidByTextAt_later rfl rfl tie2 noOwnUnsafe
end Go.Proofs.YtbhcdkbcbcmomaaDoor
