/-
  DERIVED. GIVEN WITH THE SEED: THE PROGRAM's TIES (one call each: nine closed facts by the kernel) AND EACH ROW's TIE, after the 31st guide's Derived/Test/Toyas{Tie, Card}.lean. No idea stands in it: it is a product of the set-up. Laid BY PROGRAM, IN A SANDBOX (cutbox-door.mjs). By AI agents, Wed Nov 11 2026. No macro, syntax, notation, axiom, sorry.
-/
import Derived.Test.YtlfmmmbafkelhaaDoorRows
import Derived.LaidByTextLater
import Derived.SevenTiedAt
import Derived.LaidSub
import Derived.LaidOnce
namespace Go.Proofs.YtlfmmmbafkelhaaDoor
open Go
set_option maxRecDepth 100000
theorem seatTie1 : Tryd.prog.laidByTextLater [("math/bits.deBruijn32tab", Rows.laid_math_bits_deBruijn32tab), ("math/bits.deBruijn64tab", Rows.laid_math_bits_deBruijn64tab), ("internal/strconv.uint64pow10", Rows.laid_internal_strconv_uint64pow10), ("bytes.ErrTooLarge", Rows.laid_bytes_ErrTooLarge), ("given.example/pub-typebar/pub/readline.runes", Rows.laid_given_example_pub_typebar_pub_readline_runes)] [.data, .data, .data, .sentinel, .wider] true :=
  Program.laidByTextLater_by_one 48 8 65 (by kernel_rfl) (by kernel_rfl) (by kernel_rfl) (by kernel_rfl) (by kernel_rfl) (by kernel_rfl) (fun _ _ => by kernel_rfl)
theorem noOwnUnsafe : Tryd.pinned.checked.prog.headLifts.contains "ownunsafe" = false := by kernel_rfl
theorem tie : Tryd.prog.laidByTextLater [("given.example/pub-typebar/pub/readline.runes", Rows.laid_given_example_pub_typebar_pub_readline_runes)] [.wider] true :=
  Program.laidByTextLater.sub seatTie1 ["given.example/pub-typebar/pub/readline.runes"] (by kernel_rfl) (by kernel_rfl)
theorem fnDeleteYank_row_tie : Rows.fnDeleteYankRow.laidByTextAt .later Tryd.pinned [.wider] true :=
  OpenClaim.laidByTextAt_later rfl rfl tie noOwnUnsafe
theorem fnKeyParts_row_tie : Rows.fnKeyPartsRow.laidByTextAt .later Tryd.pinned [.wider] true :=
  OpenClaim.laidByTextAt_later rfl rfl tie noOwnUnsafe
theorem fnKillHalves_row_tie : Rows.fnKillHalvesRow.laidByTextAt .later Tryd.pinned [.wider] true :=
  OpenClaim.laidByTextAt_later rfl rfl tie noOwnUnsafe
theorem fnKillYank_row_tie : Rows.fnKillYankRow.laidByTextAt .later Tryd.pinned [.wider] true :=
  OpenClaim.laidByTextAt_later rfl rfl tie noOwnUnsafe
theorem fnTransposeTwice_row_tie : Rows.fnTransposeTwiceRow.laidByTextAt .later Tryd.pinned [.wider] true :=
  OpenClaim.laidByTextAt_later rfl rfl tie noOwnUnsafe
theorem fnKeyMoves_row_tie : Rows.fnKeyMovesRow.laidByTextAt .later Tryd.pinned [.wider] true :=
  OpenClaim.laidByTextAt_later rfl rfl tie noOwnUnsafe
theorem fnKeyTakes_row_tie : Rows.fnKeyTakesRow.laidByTextAt .later Tryd.pinned [.wider] true :=
  OpenClaim.laidByTextAt_later rfl rfl tie noOwnUnsafe
theorem tie2 : Tryd.prog.laidByTextLater [("bytes.ErrTooLarge", Rows.laid_bytes_ErrTooLarge), ("given.example/pub-typebar/pub/readline.runes", Rows.laid_given_example_pub_typebar_pub_readline_runes)] [.sentinel, .wider] true :=
  Program.laidByTextLater.sub seatTie1 ["bytes.ErrTooLarge", "given.example/pub-typebar/pub/readline.runes"] (by kernel_rfl) (by kernel_rfl)
theorem fnRowsOf_row_tie : Rows.fnRowsOfRow.laidByTextAt .later Tryd.pinned [.sentinel, .wider] true :=
  OpenClaim.laidByTextAt_later rfl rfl tie2 noOwnUnsafe
theorem tie3 : Tryd.prog.laidByTextLater [("math/bits.deBruijn32tab", Rows.laid_math_bits_deBruijn32tab), ("math/bits.deBruijn64tab", Rows.laid_math_bits_deBruijn64tab), ("internal/strconv.uint64pow10", Rows.laid_internal_strconv_uint64pow10), ("bytes.ErrTooLarge", Rows.laid_bytes_ErrTooLarge), ("given.example/pub-typebar/pub/readline.runes", Rows.laid_given_example_pub_typebar_pub_readline_runes)] [.data, .data, .data, .sentinel, .wider] true :=
  Program.laidByTextLater.sub seatTie1 ["math/bits.deBruijn32tab", "math/bits.deBruijn64tab", "internal/strconv.uint64pow10", "bytes.ErrTooLarge", "given.example/pub-typebar/pub/readline.runes"] (by kernel_rfl) (by kernel_rfl)
theorem fnShownLine_row_tie : Rows.fnShownLineRow.laidByTextAt .later Tryd.pinned [.data, .data, .data, .sentinel, .wider] true :=
  OpenClaim.laidByTextAt_later rfl rfl tie3 noOwnUnsafe
theorem fnDeleteYankUpto_row_tie : Rows.fnDeleteYankUptoRow.laidByTextAt .later Tryd.pinned [.wider] true :=
  OpenClaim.laidByTextAt_later rfl rfl tie noOwnUnsafe
theorem fnKeyPartsUpto_row_tie : Rows.fnKeyPartsUptoRow.laidByTextAt .later Tryd.pinned [.wider] true :=
  OpenClaim.laidByTextAt_later rfl rfl tie noOwnUnsafe
theorem fnKillHalvesUpto_row_tie : Rows.fnKillHalvesUptoRow.laidByTextAt .later Tryd.pinned [.wider] true :=
  OpenClaim.laidByTextAt_later rfl rfl tie noOwnUnsafe
theorem fnKillYankUpto_row_tie : Rows.fnKillYankUptoRow.laidByTextAt .later Tryd.pinned [.wider] true :=
  OpenClaim.laidByTextAt_later rfl rfl tie noOwnUnsafe
theorem fnTransposeTwiceUpto_row_tie : Rows.fnTransposeTwiceUptoRow.laidByTextAt .later Tryd.pinned [.wider] true :=
  OpenClaim.laidByTextAt_later rfl rfl tie noOwnUnsafe
theorem fnKeyMovesUpto_row_tie : Rows.fnKeyMovesUptoRow.laidByTextAt .later Tryd.pinned [.wider] true :=
  OpenClaim.laidByTextAt_later rfl rfl tie noOwnUnsafe
theorem fnKeyTakesUpto_row_tie : Rows.fnKeyTakesUptoRow.laidByTextAt .later Tryd.pinned [.wider] true :=
  OpenClaim.laidByTextAt_later rfl rfl tie noOwnUnsafe
theorem fnRowsOfUpto_row_tie : Rows.fnRowsOfUptoRow.laidByTextAt .later Tryd.pinned [.sentinel, .wider] true :=
  OpenClaim.laidByTextAt_later rfl rfl tie2 noOwnUnsafe
theorem fnShownLineUpto_row_tie : Rows.fnShownLineUptoRow.laidByTextAt .later Tryd.pinned [.data, .data, .data, .sentinel, .wider] true :=
  OpenClaim.laidByTextAt_later rfl rfl tie3 noOwnUnsafe
end Go.Proofs.YtlfmmmbafkelhaaDoor
