/-
  DERIVED. GIVEN WITH THE SEED: THE PROGRAM's TIES (one call each: nine closed facts by the kernel) AND EACH ROW's TIE, after the 31st guide's Derived/Test/Toyas{Tie, Card}.lean. No idea stands in it: it is a product of the set-up. Laid BY PROGRAM, IN A SANDBOX (cutbox-door.mjs). By AI agents, Wed Nov 11 2026. No macro, syntax, notation, axiom, sorry.
-/
import Derived.Test.YtjbmbjpaoagopaaDoorRows
import Derived.LaidByTextLater
import Derived.SevenTiedAt
import Derived.LaidSub
import Derived.LaidOnce
namespace Go.Proofs.YtjbmbjpaoagopaaDoor
open Go
set_option maxRecDepth 100000
theorem seatTie1 : Tryd.prog.laidByTextLater [("loop.example/pub-g01445/pub/snappy.ErrCorrupt", Rows.laid_loop_example_pub_g01445_pub_snappy_ErrCorrupt), ("loop.example/pub-g01445/pub/snappy.ErrTooLarge", Rows.laid_loop_example_pub_g01445_pub_snappy_ErrTooLarge), ("loop.example/pub-g01445/pub/snappy.ErrUnsupported", Rows.laid_loop_example_pub_g01445_pub_snappy_ErrUnsupported)] [.sentinel, .sentinel, .sentinel] true :=
  Program.laidByTextLater_by_one 66 8 2 (by kernel_rfl) (by kernel_rfl) (by kernel_rfl) (by kernel_rfl) (by kernel_rfl) (by kernel_rfl) (fun _ _ => by kernel_rfl)
theorem noOwnUnsafe : Tryd.pinned.checked.prog.headLifts.contains "ownunsafe" = false := by kernel_rfl
theorem tie : Tryd.prog.laidByTextLater [("loop.example/pub-g01445/pub/snappy.ErrCorrupt", Rows.laid_loop_example_pub_g01445_pub_snappy_ErrCorrupt), ("loop.example/pub-g01445/pub/snappy.ErrTooLarge", Rows.laid_loop_example_pub_g01445_pub_snappy_ErrTooLarge), ("loop.example/pub-g01445/pub/snappy.ErrUnsupported", Rows.laid_loop_example_pub_g01445_pub_snappy_ErrUnsupported)] [.sentinel, .sentinel, .sentinel] true :=
  Program.laidByTextLater.sub seatTie1 ["loop.example/pub-g01445/pub/snappy.ErrCorrupt", "loop.example/pub-g01445/pub/snappy.ErrTooLarge", "loop.example/pub-g01445/pub/snappy.ErrUnsupported"] (by kernel_rfl) (by kernel_rfl)
theorem fnDecodedLen_row_tie : Rows.fnDecodedLenRow.laidByTextAt .later Tryd.pinned [.sentinel, .sentinel, .sentinel] true :=
  OpenClaim.laidByTextAt_later rfl rfl tie noOwnUnsafe
theorem fnDecodedLenUpto_row_tie : Rows.fnDecodedLenUptoRow.laidByTextAt .later Tryd.pinned [.sentinel, .sentinel, .sentinel] true :=
  OpenClaim.laidByTextAt_later rfl rfl tie noOwnUnsafe
end Go.Proofs.YtjbmbjpaoagopaaDoor
