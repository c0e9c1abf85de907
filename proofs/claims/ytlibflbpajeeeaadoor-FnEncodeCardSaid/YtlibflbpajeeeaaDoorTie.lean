/-
  DERIVED. GIVEN WITH THE SEED: THE PROGRAM's TIES (one call each: nine closed facts by the kernel) AND EACH ROW's TIE, after the 31st guide's Derived/Test/Toyas{Tie, Card}.lean. No idea stands in it: it is a product of the set-up. Laid BY PROGRAM, IN A SANDBOX (cutbox-door.mjs). By AI agents, Wed Nov 11 2026. No macro, syntax, notation, axiom, sorry.
-/
import Derived.Test.YtlibflbpajeeeaaDoorRows
import Derived.LaidByTextLater
import Derived.SevenTiedAt
import Derived.LaidSub
import Derived.LaidOnce
namespace Go.Proofs.YtlibflbpajeeeaaDoor
open Go
set_option maxRecDepth 100000
theorem seatTie1 : Tryd.prog.laidByTextLater [("loop.example/pub-g03464/pub/jpeg.unzig", Rows.laid_loop_example_pub_g03464_pub_jpeg_unzig), ("loop.example/pub-g03464/pub/jpeg.bitCount", Rows.laid_loop_example_pub_g03464_pub_jpeg_bitCount), ("loop.example/pub-g03464/pub/jpeg.unscaledQuant", Rows.laid_loop_example_pub_g03464_pub_jpeg_unscaledQuant)] [.data, .data, .data] true :=
  Program.laidByTextLater_by_one 26 8 257 (by kernel_rfl) (by kernel_rfl) (by kernel_rfl) (by kernel_rfl) (by kernel_rfl) (by kernel_rfl) (fun _ _ => by kernel_rfl)
theorem noOwnUnsafe : Tryd.pinned.checked.prog.headLifts.contains "ownunsafe" = false := by kernel_rfl
theorem tie : Tryd.prog.laidByTextLater [("loop.example/pub-g03464/pub/jpeg.unzig", Rows.laid_loop_example_pub_g03464_pub_jpeg_unzig), ("loop.example/pub-g03464/pub/jpeg.bitCount", Rows.laid_loop_example_pub_g03464_pub_jpeg_bitCount), ("loop.example/pub-g03464/pub/jpeg.unscaledQuant", Rows.laid_loop_example_pub_g03464_pub_jpeg_unscaledQuant)] [.data, .data, .data] true :=
  Program.laidByTextLater.sub seatTie1 ["loop.example/pub-g03464/pub/jpeg.unzig", "loop.example/pub-g03464/pub/jpeg.bitCount", "loop.example/pub-g03464/pub/jpeg.unscaledQuant"] (by kernel_rfl) (by kernel_rfl)
theorem fnEncode_row_tie : Rows.fnEncodeRow.laidByTextAt .later Tryd.pinned [.data, .data, .data] true :=
  OpenClaim.laidByTextAt_later rfl rfl tie noOwnUnsafe
theorem fnEncodeUpto_row_tie : Rows.fnEncodeUptoRow.laidByTextAt .later Tryd.pinned [.data, .data, .data] true :=
  OpenClaim.laidByTextAt_later rfl rfl tie noOwnUnsafe
end Go.Proofs.YtlibflbpajeeeaaDoor
