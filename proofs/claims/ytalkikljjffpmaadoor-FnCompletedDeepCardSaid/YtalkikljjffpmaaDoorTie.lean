/-
  DERIVED. GIVEN WITH THE SEED: THE PROGRAM's TIES (one call each: nine closed facts by the kernel) AND EACH ROW's TIE, after the 31st guide's Derived/Test/Toyas{Tie, Card}.lean. No idea stands in it: it is a product of the set-up. Laid BY PROGRAM, IN A SANDBOX (cutbox-door.mjs). By AI agents, Wed Nov 11 2026. No macro, syntax, notation, axiom, sorry.
-/
import Derived.Test.YtalkikljjffpmaaDoorRows
import Derived.LaidByTextLater
import Derived.SevenTiedAt
import Derived.LaidSub
import Derived.LaidOnce
namespace Go.Proofs.YtalkikljjffpmaaDoor
open Go
set_option maxRecDepth 100000
theorem seatTie1 : Tryd.prog.laidByTextLater [("math/bits.deBruijn32tab", Rows.laid_math_bits_deBruijn32tab), ("math/bits.deBruijn64tab", Rows.laid_math_bits_deBruijn64tab), ("internal/strconv.uint64pow10", Rows.laid_internal_strconv_uint64pow10), ("unicode.White_Space", Rows.laid_unicode_White_Space), ("given.example/pub-typebar/pub/readline.runes", Rows.laid_given_example_pub_typebar_pub_readline_runes), ("given.example/pub-typebar/spec.fixed", Rows.laid_given_example_pub_typebar_spec_fixed)] [.data, .data, .data, .listed, .wider, .mapped] true :=
  Program.laidByTextLater_by_one 123 8 65 (by kernel_rfl) (by kernel_rfl) (by kernel_rfl) (by kernel_rfl) (by kernel_rfl) (by kernel_rfl) (fun _ _ => by kernel_rfl)
theorem noOwnUnsafe : Tryd.pinned.checked.prog.headLifts.contains "ownunsafe" = false := by kernel_rfl
theorem tie : Tryd.prog.laidByTextLater [("given.example/pub-typebar/pub/readline.runes", Rows.laid_given_example_pub_typebar_pub_readline_runes)] [.wider] true :=
  Program.laidByTextLater.sub seatTie1 ["given.example/pub-typebar/pub/readline.runes"] (by kernel_rfl) (by kernel_rfl)
theorem fnSegmented_row_tie : Rows.fnSegmentedRow.laidByTextAt .later Tryd.pinned [.wider] true :=
  OpenClaim.laidByTextAt_later rfl rfl tie noOwnUnsafe
theorem fnPasts_row_tie : Rows.fnPastsRow.laidByTextAt .later Tryd.pinned [.wider] true :=
  OpenClaim.laidByTextAt_later rfl rfl tie noOwnUnsafe
theorem tie2 : Tryd.prog.laidByTextLater [("unicode.White_Space", Rows.laid_unicode_White_Space), ("given.example/pub-typebar/pub/readline.runes", Rows.laid_given_example_pub_typebar_pub_readline_runes)] [.listed, .wider] true :=
  Program.laidByTextLater.sub seatTie1 ["unicode.White_Space", "given.example/pub-typebar/pub/readline.runes"] (by kernel_rfl) (by kernel_rfl)
theorem fnCompletedDeep_row_tie : Rows.fnCompletedDeepRow.laidByTextAt .later Tryd.pinned [.listed, .wider] true :=
  OpenClaim.laidByTextAt_later rfl rfl tie2 noOwnUnsafe
theorem tie3 : Tryd.prog.laidByTextLater [("math/bits.deBruijn32tab", Rows.laid_math_bits_deBruijn32tab), ("math/bits.deBruijn64tab", Rows.laid_math_bits_deBruijn64tab), ("internal/strconv.uint64pow10", Rows.laid_internal_strconv_uint64pow10), ("given.example/pub-typebar/spec.fixed", Rows.laid_given_example_pub_typebar_spec_fixed)] [.data, .data, .data, .mapped] true :=
  Program.laidByTextLater.sub seatTie1 ["math/bits.deBruijn32tab", "math/bits.deBruijn64tab", "internal/strconv.uint64pow10", "given.example/pub-typebar/spec.fixed"] (by kernel_rfl) (by kernel_rfl)
theorem fnWrote_row_tie : Rows.fnWroteRow.laidByTextAt .later Tryd.pinned [.data, .data, .data, .mapped] true :=
  OpenClaim.laidByTextAt_later rfl rfl tie3 noOwnUnsafe
theorem fnSegmentedUpto_row_tie : Rows.fnSegmentedUptoRow.laidByTextAt .later Tryd.pinned [.wider] true :=
  OpenClaim.laidByTextAt_later rfl rfl tie noOwnUnsafe
theorem fnCompletedDeepUpto_row_tie : Rows.fnCompletedDeepUptoRow.laidByTextAt .later Tryd.pinned [.listed, .wider] true :=
  OpenClaim.laidByTextAt_later rfl rfl tie2 noOwnUnsafe
theorem fnPastsUpto_row_tie : Rows.fnPastsUptoRow.laidByTextAt .later Tryd.pinned [.wider] true :=
  OpenClaim.laidByTextAt_later rfl rfl tie noOwnUnsafe
theorem fnWroteUpto_row_tie : Rows.fnWroteUptoRow.laidByTextAt .later Tryd.pinned [.data, .data, .data, .mapped] true :=
  OpenClaim.laidByTextAt_later rfl rfl tie3 noOwnUnsafe
end Go.Proofs.YtalkikljjffpmaaDoor
