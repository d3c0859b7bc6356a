/-
  DERIVED. GIVEN WITH THE SEED: THE PROGRAM's TIES (one call each: nine closed facts by the kernel) AND EACH ROW's TIE, after the 31st guide's Derived/Test/Toyas{Tie, Card}.lean. No idea stands in it: it is a product of the set-up. Laid BY PROGRAM, IN A SANDBOX (cutbox-door.mjs). By AI agents, Wed Nov 11 2026. No macro, syntax, notation, axiom, sorry.
-/
import Derived.Test.YtodbfgomkcmdgaaDoorRows
import Derived.LaidByTextLater
import Derived.SevenTiedAt
import Derived.LaidSub
import Derived.LaidOnce
namespace Go.Proofs.YtodbfgomkcmdgaaDoor
open Go
set_option maxRecDepth 100000
theorem seatTie1 : Tryd.prog.laidByTextLater [("loop.example/pub-g01445/pub/snappy.ErrCorrupt", Rows.laid_loop_example_pub_g01445_pub_snappy_ErrCorrupt), ("loop.example/pub-g01445/pub/snappy.ErrTooLarge", Rows.laid_loop_example_pub_g01445_pub_snappy_ErrTooLarge), ("loop.example/pub-g01445/pub/snappy.ErrUnsupported", Rows.laid_loop_example_pub_g01445_pub_snappy_ErrUnsupported), ("loop.example/pub-g01445/pub/snappy.errUnsupportedLiteralLength", Rows.laid_loop_example_pub_g01445_pub_snappy_errUnsupportedLiteralLength)] [.sentinel, .sentinel, .sentinel, .sentinel] true :=
  Program.laidByTextLater_by_one 85 8 2 (by kernel_rfl) (by kernel_rfl) (by kernel_rfl) (by kernel_rfl) (by kernel_rfl) (by kernel_rfl) (fun _ _ => by kernel_rfl)
theorem noOwnUnsafe : Tryd.pinned.checked.prog.headLifts.contains "ownunsafe" = false := by kernel_rfl
theorem tie : Tryd.prog.laidByTextLater [("loop.example/pub-g01445/pub/snappy.ErrCorrupt", Rows.laid_loop_example_pub_g01445_pub_snappy_ErrCorrupt), ("loop.example/pub-g01445/pub/snappy.ErrTooLarge", Rows.laid_loop_example_pub_g01445_pub_snappy_ErrTooLarge), ("loop.example/pub-g01445/pub/snappy.errUnsupportedLiteralLength", Rows.laid_loop_example_pub_g01445_pub_snappy_errUnsupportedLiteralLength)] [.sentinel, .sentinel, .sentinel] true :=
  Program.laidByTextLater.sub seatTie1 ["loop.example/pub-g01445/pub/snappy.ErrCorrupt", "loop.example/pub-g01445/pub/snappy.ErrTooLarge", "loop.example/pub-g01445/pub/snappy.errUnsupportedLiteralLength"] (by kernel_rfl) (by kernel_rfl)
theorem fnDecodeKeeps_row_tie : Rows.fnDecodeKeepsRow.laidByTextAt .later Tryd.pinned [.sentinel, .sentinel, .sentinel] true :=
  OpenClaim.laidByTextAt_later rfl rfl tie noOwnUnsafe
theorem tie2 : Tryd.prog.laidByTextLater [("loop.example/pub-g01445/pub/snappy.ErrCorrupt", Rows.laid_loop_example_pub_g01445_pub_snappy_ErrCorrupt), ("loop.example/pub-g01445/pub/snappy.ErrTooLarge", Rows.laid_loop_example_pub_g01445_pub_snappy_ErrTooLarge), ("loop.example/pub-g01445/pub/snappy.ErrUnsupported", Rows.laid_loop_example_pub_g01445_pub_snappy_ErrUnsupported), ("loop.example/pub-g01445/pub/snappy.errUnsupportedLiteralLength", Rows.laid_loop_example_pub_g01445_pub_snappy_errUnsupportedLiteralLength)] [.sentinel, .sentinel, .sentinel, .sentinel] true :=
  Program.laidByTextLater.sub seatTie1 ["loop.example/pub-g01445/pub/snappy.ErrCorrupt", "loop.example/pub-g01445/pub/snappy.ErrTooLarge", "loop.example/pub-g01445/pub/snappy.ErrUnsupported", "loop.example/pub-g01445/pub/snappy.errUnsupportedLiteralLength"] (by kernel_rfl) (by kernel_rfl)
theorem fnCutWritten_row_tie : Rows.fnCutWrittenRow.laidByTextAt .later Tryd.pinned [.sentinel, .sentinel, .sentinel, .sentinel] true :=
  OpenClaim.laidByTextAt_later rfl rfl tie2 noOwnUnsafe
theorem fnDecode_row_tie : Rows.fnDecodeRow.laidByTextAt .later Tryd.pinned [.sentinel, .sentinel, .sentinel, .sentinel] true :=
  OpenClaim.laidByTextAt_later rfl rfl tie2 noOwnUnsafe
theorem fnDecodeRoom_row_tie : Rows.fnDecodeRoomRow.laidByTextAt .later Tryd.pinned [.sentinel, .sentinel, .sentinel, .sentinel] true :=
  OpenClaim.laidByTextAt_later rfl rfl tie2 noOwnUnsafe
theorem fnLength_row_tie : Rows.fnLengthRow.laidByTextAt .later Tryd.pinned [.sentinel, .sentinel, .sentinel, .sentinel] true :=
  OpenClaim.laidByTextAt_later rfl rfl tie2 noOwnUnsafe
theorem fnLiteral_row_tie : Rows.fnLiteralRow.laidByTextAt .later Tryd.pinned [.sentinel, .sentinel, .sentinel, .sentinel] true :=
  OpenClaim.laidByTextAt_later rfl rfl tie2 noOwnUnsafe
theorem fnMore_row_tie : Rows.fnMoreRow.laidByTextAt .later Tryd.pinned [.sentinel, .sentinel, .sentinel, .sentinel] true :=
  OpenClaim.laidByTextAt_later rfl rfl tie2 noOwnUnsafe
theorem fnOffset_row_tie : Rows.fnOffsetRow.laidByTextAt .later Tryd.pinned [.sentinel, .sentinel, .sentinel, .sentinel] true :=
  OpenClaim.laidByTextAt_later rfl rfl tie2 noOwnUnsafe
theorem fnRun_row_tie : Rows.fnRunRow.laidByTextAt .later Tryd.pinned [.sentinel, .sentinel, .sentinel, .sentinel] true :=
  OpenClaim.laidByTextAt_later rfl rfl tie2 noOwnUnsafe
theorem fnSpelled_row_tie : Rows.fnSpelledRow.laidByTextAt .later Tryd.pinned [.sentinel, .sentinel, .sentinel, .sentinel] true :=
  OpenClaim.laidByTextAt_later rfl rfl tie2 noOwnUnsafe
theorem fnWritten_row_tie : Rows.fnWrittenRow.laidByTextAt .later Tryd.pinned [.sentinel, .sentinel, .sentinel, .sentinel] true :=
  OpenClaim.laidByTextAt_later rfl rfl tie2 noOwnUnsafe
theorem fnDecodedLenText_row_tie : Rows.fnDecodedLenTextRow.laidByTextAt .later Tryd.pinned [.sentinel, .sentinel, .sentinel, .sentinel] true :=
  OpenClaim.laidByTextAt_later rfl rfl tie2 noOwnUnsafe
theorem fnDecodeKeepsUpto_row_tie : Rows.fnDecodeKeepsUptoRow.laidByTextAt .later Tryd.pinned [.sentinel, .sentinel, .sentinel] true :=
  OpenClaim.laidByTextAt_later rfl rfl tie noOwnUnsafe
theorem fnCutWrittenUpto_row_tie : Rows.fnCutWrittenUptoRow.laidByTextAt .later Tryd.pinned [.sentinel, .sentinel, .sentinel, .sentinel] true :=
  OpenClaim.laidByTextAt_later rfl rfl tie2 noOwnUnsafe
theorem fnDecodeUpto_row_tie : Rows.fnDecodeUptoRow.laidByTextAt .later Tryd.pinned [.sentinel, .sentinel, .sentinel, .sentinel] true :=
  OpenClaim.laidByTextAt_later rfl rfl tie2 noOwnUnsafe
theorem fnDecodeRoomUpto_row_tie : Rows.fnDecodeRoomUptoRow.laidByTextAt .later Tryd.pinned [.sentinel, .sentinel, .sentinel, .sentinel] true :=
  OpenClaim.laidByTextAt_later rfl rfl tie2 noOwnUnsafe
theorem fnLengthUpto_row_tie : Rows.fnLengthUptoRow.laidByTextAt .later Tryd.pinned [.sentinel, .sentinel, .sentinel, .sentinel] true :=
  OpenClaim.laidByTextAt_later rfl rfl tie2 noOwnUnsafe
theorem fnLiteralUpto_row_tie : Rows.fnLiteralUptoRow.laidByTextAt .later Tryd.pinned [.sentinel, .sentinel, .sentinel, .sentinel] true :=
  OpenClaim.laidByTextAt_later rfl rfl tie2 noOwnUnsafe
theorem fnMoreUpto_row_tie : Rows.fnMoreUptoRow.laidByTextAt .later Tryd.pinned [.sentinel, .sentinel, .sentinel, .sentinel] true :=
  OpenClaim.laidByTextAt_later rfl rfl tie2 noOwnUnsafe
theorem fnOffsetUpto_row_tie : Rows.fnOffsetUptoRow.laidByTextAt .later Tryd.pinned [.sentinel, .sentinel, .sentinel, .sentinel] true :=
  OpenClaim.laidByTextAt_later rfl rfl tie2 noOwnUnsafe
theorem fnRunUpto_row_tie : Rows.fnRunUptoRow.laidByTextAt .later Tryd.pinned [.sentinel, .sentinel, .sentinel, .sentinel] true :=
  OpenClaim.laidByTextAt_later rfl rfl tie2 noOwnUnsafe
theorem fnSpelledUpto_row_tie : Rows.fnSpelledUptoRow.laidByTextAt .later Tryd.pinned [.sentinel, .sentinel, .sentinel, .sentinel] true :=
  OpenClaim.laidByTextAt_later rfl rfl tie2 noOwnUnsafe
theorem fnWrittenUpto_row_tie : Rows.fnWrittenUptoRow.laidByTextAt .later Tryd.pinned [.sentinel, .sentinel, .sentinel, .sentinel] true :=
  OpenClaim.laidByTextAt_later rfl rfl tie2 noOwnUnsafe
theorem fnDecodedLenTextUpto_row_tie : Rows.fnDecodedLenTextUptoRow.laidByTextAt .later Tryd.pinned [.sentinel, .sentinel, .sentinel, .sentinel] true :=
  OpenClaim.laidByTextAt_later rfl rfl tie2 noOwnUnsafe
end Go.Proofs.YtodbfgomkcmdgaaDoor
