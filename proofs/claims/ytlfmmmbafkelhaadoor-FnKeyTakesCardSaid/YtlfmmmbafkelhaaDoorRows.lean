/-
  NARROWER THAN 'FOR EVERY INPUT', by the rows' own cells (each row's printed sentence says how): FnDeleteYank: laid · FnKeyParts: laid · FnKillHalves: laid · FnKillYank: laid · FnTransposeTwice: laid · FnKeyMoves: laid · FnKeyTakes: laid · FnRowsOf: laid · FnShownLine: laid.
  DERIVED. THE GIVEN ROWS OF THIS SEAT. 9 by the template 'for every input the law returns true; each argument reads behind the call as it read before'; 0 by the template 'total and deterministic' (their statements: YtlfmmmbafkelhaaDoorTotals.lean).
  GIVEN WITH THE SEED: the statements are not yours to turn. If you find one false, say at which input.
  Laid BY PROGRAM, IN A SANDBOX (cutbox-rows.mjs): the forced cells as the released guide's own fill.sh prints them over the translation ff031734324ce331… (all of the seat's roots in one cut). By AI agents, Wed Nov 11 2026. No macro, syntax, notation, axiom, sorry.
-/
import Derived.Test.YtlfmmmbafkelhaaDoorChecked
import GoSem.Claim
import GoSem.ClaimJoined
import GoSem.ClaimMapViews
import Derived.JoinedTies
import Derived.KernelRfl
namespace Go.Proofs.YtlfmmmbafkelhaaDoor
/- THE CELL 'sum', in the pinned program and in every row, IS THE sha256 OF THE DUMP (.gsa) THAT YtlfmmmbafkelhaaDoorProg.lean LOADS. Nothing in Lean hashes anything: it is a label: what it is worth is what the hold of that sum in a sandbox is worth. -/
noncomputable def Tryd.pinned : Pinned := { name := "ytlfmmmbafkelhaadoor", sum := "ff031734324ce331f9a133a00aee51b195e0f84fc0f12a73549409ec5cdbef77", checked := Tryd.checked }
namespace Rows
def none {H : Type} : Left H := { results := [], args := [] }

/- WHAT THE LISTED PACKAGE-LEVEL VARIABLES READ AS WHEN THE CALL BEGINS. Each datum BY PROGRAM (the guide's laid-datum.mjs) off the statement by which the dump's own 'gosem.cut.vars' lays the variable. In a bare row this is a premise. The card (YtlfmmmbafkelhaaDoorCards.lean) ties it to the program's text. -/
def laid_given_example_pub_typebar_pub_readline_runes {H : Type} : DataW H := .agg []
def laid_bytes_ErrTooLarge {H : Type} : DataW H := .iface "*errors.errorString" (.ptr (.agg [.lit (.string [98, 121, 116, 101, 115, 46, 66, 117, 102, 102, 101, 114, 58, 32, 116, 111, 111, 32, 108, 97, 114, 103, 101])]))
def laid_math_bits_deBruijn32tab {H : Type} : DataW H := .agg [.lit (.int .u8 0), .lit (.int .u8 1), .lit (.int .u8 28), .lit (.int .u8 2), .lit (.int .u8 29), .lit (.int .u8 14), .lit (.int .u8 24), .lit (.int .u8 3), .lit (.int .u8 30), .lit (.int .u8 22), .lit (.int .u8 20), .lit (.int .u8 15), .lit (.int .u8 25), .lit (.int .u8 17), .lit (.int .u8 4), .lit (.int .u8 8), .lit (.int .u8 31), .lit (.int .u8 27), .lit (.int .u8 13), .lit (.int .u8 23), .lit (.int .u8 21), .lit (.int .u8 19), .lit (.int .u8 16), .lit (.int .u8 7), .lit (.int .u8 26), .lit (.int .u8 12), .lit (.int .u8 18), .lit (.int .u8 6), .lit (.int .u8 11), .lit (.int .u8 5), .lit (.int .u8 10), .lit (.int .u8 9)]
def laid_math_bits_deBruijn64tab {H : Type} : DataW H := .agg [.lit (.int .u8 0), .lit (.int .u8 1), .lit (.int .u8 56), .lit (.int .u8 2), .lit (.int .u8 57), .lit (.int .u8 49), .lit (.int .u8 28), .lit (.int .u8 3), .lit (.int .u8 61), .lit (.int .u8 58), .lit (.int .u8 42), .lit (.int .u8 50), .lit (.int .u8 38), .lit (.int .u8 29), .lit (.int .u8 17), .lit (.int .u8 4), .lit (.int .u8 62), .lit (.int .u8 47), .lit (.int .u8 59), .lit (.int .u8 36), .lit (.int .u8 45), .lit (.int .u8 43), .lit (.int .u8 51), .lit (.int .u8 22), .lit (.int .u8 53), .lit (.int .u8 39), .lit (.int .u8 33), .lit (.int .u8 30), .lit (.int .u8 24), .lit (.int .u8 18), .lit (.int .u8 12), .lit (.int .u8 5), .lit (.int .u8 63), .lit (.int .u8 55), .lit (.int .u8 48), .lit (.int .u8 27), .lit (.int .u8 60), .lit (.int .u8 41), .lit (.int .u8 37), .lit (.int .u8 16), .lit (.int .u8 46), .lit (.int .u8 35), .lit (.int .u8 44), .lit (.int .u8 21), .lit (.int .u8 52), .lit (.int .u8 32), .lit (.int .u8 23), .lit (.int .u8 11), .lit (.int .u8 54), .lit (.int .u8 26), .lit (.int .u8 40), .lit (.int .u8 15), .lit (.int .u8 34), .lit (.int .u8 20), .lit (.int .u8 31), .lit (.int .u8 10), .lit (.int .u8 25), .lit (.int .u8 14), .lit (.int .u8 19), .lit (.int .u8 9), .lit (.int .u8 13), .lit (.int .u8 8), .lit (.int .u8 7), .lit (.int .u8 6)]
def laid_internal_strconv_uint64pow10 {H : Type} : DataW H := .agg [.lit (.int .u64 1), .lit (.int .u64 10), .lit (.int .u64 100), .lit (.int .u64 1000), .lit (.int .u64 10000), .lit (.int .u64 100000), .lit (.int .u64 1000000), .lit (.int .u64 10000000), .lit (.int .u64 100000000), .lit (.int .u64 1000000000), .lit (.int .u64 10000000000), .lit (.int .u64 100000000000), .lit (.int .u64 1000000000000), .lit (.int .u64 10000000000000), .lit (.int .u64 100000000000000), .lit (.int .u64 1000000000000000), .lit (.int .u64 10000000000000000), .lit (.int .u64 100000000000000000), .lit (.int .u64 1000000000000000000), .lit (.int .u64 10000000000000000000)]

/-- 'laws.FnDeleteYank': WHATEVER THE INPUT: true; the input reads as it did. -/
def fnDeleteYankSpec : ChangeSpec := { name := "fnDeleteYank", vars := ["given.example/pub-typebar/pub/readline.runes"], fn := fun _ => fun
  | [d, g1] => { results := [.lit (.bool true)], args := [d], vars := [g1] }
  | _ => none }
def fnDeleteYankRow : OpenClaim := { program := "ytlfmmmbafkelhaadoor", sum := "ff031734324ce331f9a133a00aee51b195e0f84fc0f12a73549409ec5cdbef77", func := "given.example/pub-typebar/laws.FnDeleteYank", spec := "fnDeleteYank", unfollowed := true, recurses := true, named := ["given.example/pub-typebar/pub/readline.runes"], apart := false, laid := [("given.example/pub-typebar/pub/readline.runes", laid_given_example_pub_typebar_pub_readline_runes)] }
def FnDeleteYankSaid : Prop := fnDeleteYankRow.holds Tryd.pinned (OpenSpec.ofChange fnDeleteYankSpec)

/-- ITS FALSE NEIGHBOUR: 'it returns false'. Refute it at one input. -/
def fnDeleteYankWrong : ChangeSpec := { name := "fnDeleteYank", vars := ["given.example/pub-typebar/pub/readline.runes"], fn := fun _ => fun
  | [d, g1] => { results := [.lit (.bool false)], args := [d], vars := [g1] }
  | _ => none }
def FnDeleteYankWrongFalsely : Prop := fnDeleteYankRow.holds Tryd.pinned (OpenSpec.ofChange fnDeleteYankWrong)

/-- 'laws.FnKeyParts': WHATEVER THE INPUT: true; the input reads as it did. -/
def fnKeyPartsSpec : ChangeSpec := { name := "fnKeyParts", vars := ["given.example/pub-typebar/pub/readline.runes"], fn := fun _ => fun
  | [d1, d2, d3, g1] => { results := [.lit (.bool true)], args := [d1, d2, d3], vars := [g1] }
  | _ => none }
def fnKeyPartsRow : OpenClaim := { program := "ytlfmmmbafkelhaadoor", sum := "ff031734324ce331f9a133a00aee51b195e0f84fc0f12a73549409ec5cdbef77", func := "given.example/pub-typebar/laws.FnKeyParts", spec := "fnKeyParts", unfollowed := true, recurses := true, named := ["given.example/pub-typebar/pub/readline.runes"], apart := false, laid := [("given.example/pub-typebar/pub/readline.runes", laid_given_example_pub_typebar_pub_readline_runes)] }
def FnKeyPartsSaid : Prop := fnKeyPartsRow.holds Tryd.pinned (OpenSpec.ofChange fnKeyPartsSpec)

/-- ITS FALSE NEIGHBOUR: 'it returns false'. Refute it at one input. -/
def fnKeyPartsWrong : ChangeSpec := { name := "fnKeyParts", vars := ["given.example/pub-typebar/pub/readline.runes"], fn := fun _ => fun
  | [d1, d2, d3, g1] => { results := [.lit (.bool false)], args := [d1, d2, d3], vars := [g1] }
  | _ => none }
def FnKeyPartsWrongFalsely : Prop := fnKeyPartsRow.holds Tryd.pinned (OpenSpec.ofChange fnKeyPartsWrong)

/-- 'laws.FnKillHalves': WHATEVER THE INPUT: true; the input reads as it did. -/
def fnKillHalvesSpec : ChangeSpec := { name := "fnKillHalves", vars := ["given.example/pub-typebar/pub/readline.runes"], fn := fun _ => fun
  | [d, g1] => { results := [.lit (.bool true)], args := [d], vars := [g1] }
  | _ => none }
def fnKillHalvesRow : OpenClaim := { program := "ytlfmmmbafkelhaadoor", sum := "ff031734324ce331f9a133a00aee51b195e0f84fc0f12a73549409ec5cdbef77", func := "given.example/pub-typebar/laws.FnKillHalves", spec := "fnKillHalves", unfollowed := true, recurses := true, named := ["given.example/pub-typebar/pub/readline.runes"], apart := false, laid := [("given.example/pub-typebar/pub/readline.runes", laid_given_example_pub_typebar_pub_readline_runes)] }
def FnKillHalvesSaid : Prop := fnKillHalvesRow.holds Tryd.pinned (OpenSpec.ofChange fnKillHalvesSpec)

/-- ITS FALSE NEIGHBOUR: 'it returns false'. Refute it at one input. -/
def fnKillHalvesWrong : ChangeSpec := { name := "fnKillHalves", vars := ["given.example/pub-typebar/pub/readline.runes"], fn := fun _ => fun
  | [d, g1] => { results := [.lit (.bool false)], args := [d], vars := [g1] }
  | _ => none }
def FnKillHalvesWrongFalsely : Prop := fnKillHalvesRow.holds Tryd.pinned (OpenSpec.ofChange fnKillHalvesWrong)

/-- 'laws.FnKillYank': WHATEVER THE INPUT: true; the input reads as it did. -/
def fnKillYankSpec : ChangeSpec := { name := "fnKillYank", vars := ["given.example/pub-typebar/pub/readline.runes"], fn := fun _ => fun
  | [d1, d2, g1] => { results := [.lit (.bool true)], args := [d1, d2], vars := [g1] }
  | _ => none }
def fnKillYankRow : OpenClaim := { program := "ytlfmmmbafkelhaadoor", sum := "ff031734324ce331f9a133a00aee51b195e0f84fc0f12a73549409ec5cdbef77", func := "given.example/pub-typebar/laws.FnKillYank", spec := "fnKillYank", unfollowed := true, recurses := true, named := ["given.example/pub-typebar/pub/readline.runes"], apart := false, laid := [("given.example/pub-typebar/pub/readline.runes", laid_given_example_pub_typebar_pub_readline_runes)] }
def FnKillYankSaid : Prop := fnKillYankRow.holds Tryd.pinned (OpenSpec.ofChange fnKillYankSpec)

/-- ITS FALSE NEIGHBOUR: 'it returns false'. Refute it at one input. -/
def fnKillYankWrong : ChangeSpec := { name := "fnKillYank", vars := ["given.example/pub-typebar/pub/readline.runes"], fn := fun _ => fun
  | [d1, d2, g1] => { results := [.lit (.bool false)], args := [d1, d2], vars := [g1] }
  | _ => none }
def FnKillYankWrongFalsely : Prop := fnKillYankRow.holds Tryd.pinned (OpenSpec.ofChange fnKillYankWrong)

/-- 'laws.FnTransposeTwice': WHATEVER THE INPUT: true; the input reads as it did. -/
def fnTransposeTwiceSpec : ChangeSpec := { name := "fnTransposeTwice", vars := ["given.example/pub-typebar/pub/readline.runes"], fn := fun _ => fun
  | [d, g1] => { results := [.lit (.bool true)], args := [d], vars := [g1] }
  | _ => none }
def fnTransposeTwiceRow : OpenClaim := { program := "ytlfmmmbafkelhaadoor", sum := "ff031734324ce331f9a133a00aee51b195e0f84fc0f12a73549409ec5cdbef77", func := "given.example/pub-typebar/laws.FnTransposeTwice", spec := "fnTransposeTwice", unfollowed := true, recurses := true, named := ["given.example/pub-typebar/pub/readline.runes"], apart := false, laid := [("given.example/pub-typebar/pub/readline.runes", laid_given_example_pub_typebar_pub_readline_runes)] }
def FnTransposeTwiceSaid : Prop := fnTransposeTwiceRow.holds Tryd.pinned (OpenSpec.ofChange fnTransposeTwiceSpec)

/-- ITS FALSE NEIGHBOUR: 'it returns false'. Refute it at one input. -/
def fnTransposeTwiceWrong : ChangeSpec := { name := "fnTransposeTwice", vars := ["given.example/pub-typebar/pub/readline.runes"], fn := fun _ => fun
  | [d, g1] => { results := [.lit (.bool false)], args := [d], vars := [g1] }
  | _ => none }
def FnTransposeTwiceWrongFalsely : Prop := fnTransposeTwiceRow.holds Tryd.pinned (OpenSpec.ofChange fnTransposeTwiceWrong)

/-- 'laws.FnKeyMoves': WHATEVER THE INPUT: true; the input reads as it did. -/
def fnKeyMovesSpec : ChangeSpec := { name := "fnKeyMoves", vars := ["given.example/pub-typebar/pub/readline.runes"], fn := fun _ => fun
  | [d1, d2, g1] => { results := [.lit (.bool true)], args := [d1, d2], vars := [g1] }
  | _ => none }
def fnKeyMovesRow : OpenClaim := { program := "ytlfmmmbafkelhaadoor", sum := "ff031734324ce331f9a133a00aee51b195e0f84fc0f12a73549409ec5cdbef77", func := "given.example/pub-typebar/laws.FnKeyMoves", spec := "fnKeyMoves", unfollowed := true, recurses := true, named := ["given.example/pub-typebar/pub/readline.runes"], apart := false, laid := [("given.example/pub-typebar/pub/readline.runes", laid_given_example_pub_typebar_pub_readline_runes)] }
def FnKeyMovesSaid : Prop := fnKeyMovesRow.holds Tryd.pinned (OpenSpec.ofChange fnKeyMovesSpec)

/-- ITS FALSE NEIGHBOUR: 'it returns false'. Refute it at one input. -/
def fnKeyMovesWrong : ChangeSpec := { name := "fnKeyMoves", vars := ["given.example/pub-typebar/pub/readline.runes"], fn := fun _ => fun
  | [d1, d2, g1] => { results := [.lit (.bool false)], args := [d1, d2], vars := [g1] }
  | _ => none }
def FnKeyMovesWrongFalsely : Prop := fnKeyMovesRow.holds Tryd.pinned (OpenSpec.ofChange fnKeyMovesWrong)

/-- 'laws.FnKeyTakes': WHATEVER THE INPUT: true; the input reads as it did. -/
def fnKeyTakesSpec : ChangeSpec := { name := "fnKeyTakes", vars := ["given.example/pub-typebar/pub/readline.runes"], fn := fun _ => fun
  | [d1, d2, g1] => { results := [.lit (.bool true)], args := [d1, d2], vars := [g1] }
  | _ => none }
def fnKeyTakesRow : OpenClaim := { program := "ytlfmmmbafkelhaadoor", sum := "ff031734324ce331f9a133a00aee51b195e0f84fc0f12a73549409ec5cdbef77", func := "given.example/pub-typebar/laws.FnKeyTakes", spec := "fnKeyTakes", unfollowed := true, recurses := true, named := ["given.example/pub-typebar/pub/readline.runes"], apart := false, laid := [("given.example/pub-typebar/pub/readline.runes", laid_given_example_pub_typebar_pub_readline_runes)] }
def FnKeyTakesSaid : Prop := fnKeyTakesRow.holds Tryd.pinned (OpenSpec.ofChange fnKeyTakesSpec)

/-- ITS FALSE NEIGHBOUR: 'it returns false'. Refute it at one input. -/
def fnKeyTakesWrong : ChangeSpec := { name := "fnKeyTakes", vars := ["given.example/pub-typebar/pub/readline.runes"], fn := fun _ => fun
  | [d1, d2, g1] => { results := [.lit (.bool false)], args := [d1, d2], vars := [g1] }
  | _ => none }
def FnKeyTakesWrongFalsely : Prop := fnKeyTakesRow.holds Tryd.pinned (OpenSpec.ofChange fnKeyTakesWrong)

/-- 'laws.FnRowsOf': WHATEVER THE INPUT: true; the input reads as it did. -/
def fnRowsOfSpec : ChangeSpec := { name := "fnRowsOf", vars := ["given.example/pub-typebar/pub/readline.runes"], fn := fun _ => fun
  | [d1, d2, d3, g1] => { results := [.lit (.bool true)], args := [d1, d2, d3], vars := [g1] }
  | _ => none }
def fnRowsOfRow : OpenClaim := { program := "ytlfmmmbafkelhaadoor", sum := "ff031734324ce331f9a133a00aee51b195e0f84fc0f12a73549409ec5cdbef77", func := "given.example/pub-typebar/laws.FnRowsOf", spec := "fnRowsOf", unfollowed := true, recurses := true, named := ["given.example/pub-typebar/pub/readline.runes", "bytes.ErrTooLarge"], apart := false, laid := [("bytes.ErrTooLarge", laid_bytes_ErrTooLarge), ("given.example/pub-typebar/pub/readline.runes", laid_given_example_pub_typebar_pub_readline_runes)] }
def FnRowsOfSaid : Prop := fnRowsOfRow.holds Tryd.pinned (OpenSpec.ofChange fnRowsOfSpec)

/-- ITS FALSE NEIGHBOUR: 'it returns false'. Refute it at one input. -/
def fnRowsOfWrong : ChangeSpec := { name := "fnRowsOf", vars := ["given.example/pub-typebar/pub/readline.runes"], fn := fun _ => fun
  | [d1, d2, d3, g1] => { results := [.lit (.bool false)], args := [d1, d2, d3], vars := [g1] }
  | _ => none }
def FnRowsOfWrongFalsely : Prop := fnRowsOfRow.holds Tryd.pinned (OpenSpec.ofChange fnRowsOfWrong)

/-- 'laws.FnShownLine': WHATEVER THE INPUT: true; the input reads as it did. -/
def fnShownLineSpec : ChangeSpec := { name := "fnShownLine", vars := ["given.example/pub-typebar/pub/readline.runes"], fn := fun _ => fun
  | [d1, d2, d3, g1] => { results := [.lit (.bool true)], args := [d1, d2, d3], vars := [g1] }
  | _ => none }
def fnShownLineRow : OpenClaim := { program := "ytlfmmmbafkelhaadoor", sum := "ff031734324ce331f9a133a00aee51b195e0f84fc0f12a73549409ec5cdbef77", func := "given.example/pub-typebar/laws.FnShownLine", spec := "fnShownLine", inPlace := ["internal/abi.NoEscape", "internal/bytealg.MakeNoZero"], unfollowed := true, recurses := true, named := ["given.example/pub-typebar/pub/readline.runes", "bytes.ErrTooLarge", "internal/strconv.uint64pow10", "math/bits.deBruijn32tab", "math/bits.deBruijn64tab"], apart := false, laid := [("math/bits.deBruijn32tab", laid_math_bits_deBruijn32tab), ("math/bits.deBruijn64tab", laid_math_bits_deBruijn64tab), ("internal/strconv.uint64pow10", laid_internal_strconv_uint64pow10), ("bytes.ErrTooLarge", laid_bytes_ErrTooLarge), ("given.example/pub-typebar/pub/readline.runes", laid_given_example_pub_typebar_pub_readline_runes)] }
def FnShownLineSaid : Prop := fnShownLineRow.holds Tryd.pinned (OpenSpec.ofChange fnShownLineSpec)

/-- ITS FALSE NEIGHBOUR: 'it returns false'. Refute it at one input. -/
def fnShownLineWrong : ChangeSpec := { name := "fnShownLine", vars := ["given.example/pub-typebar/pub/readline.runes"], fn := fun _ => fun
  | [d1, d2, d3, g1] => { results := [.lit (.bool false)], args := [d1, d2, d3], vars := [g1] }
  | _ => none }
def FnShownLineWrongFalsely : Prop := fnShownLineRow.holds Tryd.pinned (OpenSpec.ofChange fnShownLineWrong)

/- THE SECOND FORM. 'bulk': how many values and letters a reading holds, each counted each time it is reached (what is shared counts as often as it is met; a slice's spare places count too). A statement '..UptoSaid' is the law's where the arguments, and the package variables that the reading takes, are together of bulk at most 1048576: NARROWER than '..Said'. Prove '..Said' where nothing that the law and all that it calls make is longer than what came in: it says more and counts as full. Else prove '..UptoSaid'. A law counts once. -/
mutual
def uptoBulk {H : Type} : DataW H → Nat
  | .lit (.string bytes) => bytes.length + 1
  | .lit _ => 1
  | .nil => 1
  | .ptr d => uptoBulk d + 1
  | .slice elems spare => uptoBulkAll elems + uptoBulkAll spare + 1
  | .agg parts => uptoBulkAll parts + 1
  | .iface _ d => uptoBulk d + 1
  | .map entries => uptoBulkEntries entries + 1
  | .held _ => 1
def uptoBulkAll {H : Type} : List (DataW H) → Nat
  | [] => 0
  | d :: r => uptoBulk d + uptoBulkAll r
def uptoBulkEntries {H : Type} : List (Lit × DataW H) → Nat
  | [] => 0
  | x :: r => uptoBulkEntry x + uptoBulkEntries r
def uptoBulkEntry {H : Type} : Lit × DataW H → Nat
  | (.string bytes, d) => bytes.length + uptoBulk d + 1
  | (_, d) => uptoBulk d + 1
 end
def uptoSmall : (H : Type) → List (DataW H) → Bool := fun _ ds => decide (uptoBulkAll ds ≤ 1048576)
def OpenSpec.upto (s : _root_.Go.ChangeSpec) : _root_.Go.OpenSpec := { _root_.Go.OpenSpec.ofChange s with cond := some uptoSmall }

/-- 'laws.FnDeleteYank', WHERE WHAT IT READS IS OF BULK AT MOST 1048576: true; the input reads as it did. -/
def fnDeleteYankUptoRow : OpenClaim := { program := "ytlfmmmbafkelhaadoor", sum := "ff031734324ce331f9a133a00aee51b195e0f84fc0f12a73549409ec5cdbef77", func := "given.example/pub-typebar/laws.FnDeleteYank", spec := "fnDeleteYank", unfollowed := true, recurses := true, named := ["given.example/pub-typebar/pub/readline.runes"], apart := false, laid := [("given.example/pub-typebar/pub/readline.runes", laid_given_example_pub_typebar_pub_readline_runes)], narrowed := true }
def FnDeleteYankUptoSaid : Prop := fnDeleteYankUptoRow.holds Tryd.pinned (OpenSpec.upto fnDeleteYankSpec)

/-- 'laws.FnKeyParts', WHERE WHAT IT READS IS OF BULK AT MOST 1048576: true; the input reads as it did. -/
def fnKeyPartsUptoRow : OpenClaim := { program := "ytlfmmmbafkelhaadoor", sum := "ff031734324ce331f9a133a00aee51b195e0f84fc0f12a73549409ec5cdbef77", func := "given.example/pub-typebar/laws.FnKeyParts", spec := "fnKeyParts", unfollowed := true, recurses := true, named := ["given.example/pub-typebar/pub/readline.runes"], apart := false, laid := [("given.example/pub-typebar/pub/readline.runes", laid_given_example_pub_typebar_pub_readline_runes)], narrowed := true }
def FnKeyPartsUptoSaid : Prop := fnKeyPartsUptoRow.holds Tryd.pinned (OpenSpec.upto fnKeyPartsSpec)

/-- 'laws.FnKillHalves', WHERE WHAT IT READS IS OF BULK AT MOST 1048576: true; the input reads as it did. -/
def fnKillHalvesUptoRow : OpenClaim := { program := "ytlfmmmbafkelhaadoor", sum := "ff031734324ce331f9a133a00aee51b195e0f84fc0f12a73549409ec5cdbef77", func := "given.example/pub-typebar/laws.FnKillHalves", spec := "fnKillHalves", unfollowed := true, recurses := true, named := ["given.example/pub-typebar/pub/readline.runes"], apart := false, laid := [("given.example/pub-typebar/pub/readline.runes", laid_given_example_pub_typebar_pub_readline_runes)], narrowed := true }
def FnKillHalvesUptoSaid : Prop := fnKillHalvesUptoRow.holds Tryd.pinned (OpenSpec.upto fnKillHalvesSpec)

/-- 'laws.FnKillYank', WHERE WHAT IT READS IS OF BULK AT MOST 1048576: true; the input reads as it did. -/
def fnKillYankUptoRow : OpenClaim := { program := "ytlfmmmbafkelhaadoor", sum := "ff031734324ce331f9a133a00aee51b195e0f84fc0f12a73549409ec5cdbef77", func := "given.example/pub-typebar/laws.FnKillYank", spec := "fnKillYank", unfollowed := true, recurses := true, named := ["given.example/pub-typebar/pub/readline.runes"], apart := false, laid := [("given.example/pub-typebar/pub/readline.runes", laid_given_example_pub_typebar_pub_readline_runes)], narrowed := true }
def FnKillYankUptoSaid : Prop := fnKillYankUptoRow.holds Tryd.pinned (OpenSpec.upto fnKillYankSpec)

/-- 'laws.FnTransposeTwice', WHERE WHAT IT READS IS OF BULK AT MOST 1048576: true; the input reads as it did. -/
def fnTransposeTwiceUptoRow : OpenClaim := { program := "ytlfmmmbafkelhaadoor", sum := "ff031734324ce331f9a133a00aee51b195e0f84fc0f12a73549409ec5cdbef77", func := "given.example/pub-typebar/laws.FnTransposeTwice", spec := "fnTransposeTwice", unfollowed := true, recurses := true, named := ["given.example/pub-typebar/pub/readline.runes"], apart := false, laid := [("given.example/pub-typebar/pub/readline.runes", laid_given_example_pub_typebar_pub_readline_runes)], narrowed := true }
def FnTransposeTwiceUptoSaid : Prop := fnTransposeTwiceUptoRow.holds Tryd.pinned (OpenSpec.upto fnTransposeTwiceSpec)

/-- 'laws.FnKeyMoves', WHERE WHAT IT READS IS OF BULK AT MOST 1048576: true; the input reads as it did. -/
def fnKeyMovesUptoRow : OpenClaim := { program := "ytlfmmmbafkelhaadoor", sum := "ff031734324ce331f9a133a00aee51b195e0f84fc0f12a73549409ec5cdbef77", func := "given.example/pub-typebar/laws.FnKeyMoves", spec := "fnKeyMoves", unfollowed := true, recurses := true, named := ["given.example/pub-typebar/pub/readline.runes"], apart := false, laid := [("given.example/pub-typebar/pub/readline.runes", laid_given_example_pub_typebar_pub_readline_runes)], narrowed := true }
def FnKeyMovesUptoSaid : Prop := fnKeyMovesUptoRow.holds Tryd.pinned (OpenSpec.upto fnKeyMovesSpec)

/-- 'laws.FnKeyTakes', WHERE WHAT IT READS IS OF BULK AT MOST 1048576: true; the input reads as it did. -/
def fnKeyTakesUptoRow : OpenClaim := { program := "ytlfmmmbafkelhaadoor", sum := "ff031734324ce331f9a133a00aee51b195e0f84fc0f12a73549409ec5cdbef77", func := "given.example/pub-typebar/laws.FnKeyTakes", spec := "fnKeyTakes", unfollowed := true, recurses := true, named := ["given.example/pub-typebar/pub/readline.runes"], apart := false, laid := [("given.example/pub-typebar/pub/readline.runes", laid_given_example_pub_typebar_pub_readline_runes)], narrowed := true }
def FnKeyTakesUptoSaid : Prop := fnKeyTakesUptoRow.holds Tryd.pinned (OpenSpec.upto fnKeyTakesSpec)

/-- 'laws.FnRowsOf', WHERE WHAT IT READS IS OF BULK AT MOST 1048576: true; the input reads as it did. -/
def fnRowsOfUptoRow : OpenClaim := { program := "ytlfmmmbafkelhaadoor", sum := "ff031734324ce331f9a133a00aee51b195e0f84fc0f12a73549409ec5cdbef77", func := "given.example/pub-typebar/laws.FnRowsOf", spec := "fnRowsOf", unfollowed := true, recurses := true, named := ["given.example/pub-typebar/pub/readline.runes", "bytes.ErrTooLarge"], apart := false, laid := [("bytes.ErrTooLarge", laid_bytes_ErrTooLarge), ("given.example/pub-typebar/pub/readline.runes", laid_given_example_pub_typebar_pub_readline_runes)], narrowed := true }
def FnRowsOfUptoSaid : Prop := fnRowsOfUptoRow.holds Tryd.pinned (OpenSpec.upto fnRowsOfSpec)

/-- 'laws.FnShownLine', WHERE WHAT IT READS IS OF BULK AT MOST 1048576: true; the input reads as it did. -/
def fnShownLineUptoRow : OpenClaim := { program := "ytlfmmmbafkelhaadoor", sum := "ff031734324ce331f9a133a00aee51b195e0f84fc0f12a73549409ec5cdbef77", func := "given.example/pub-typebar/laws.FnShownLine", spec := "fnShownLine", inPlace := ["internal/abi.NoEscape", "internal/bytealg.MakeNoZero"], unfollowed := true, recurses := true, named := ["given.example/pub-typebar/pub/readline.runes", "bytes.ErrTooLarge", "internal/strconv.uint64pow10", "math/bits.deBruijn32tab", "math/bits.deBruijn64tab"], apart := false, laid := [("math/bits.deBruijn32tab", laid_math_bits_deBruijn32tab), ("math/bits.deBruijn64tab", laid_math_bits_deBruijn64tab), ("internal/strconv.uint64pow10", laid_internal_strconv_uint64pow10), ("bytes.ErrTooLarge", laid_bytes_ErrTooLarge), ("given.example/pub-typebar/pub/readline.runes", laid_given_example_pub_typebar_pub_readline_runes)], narrowed := true }
def FnShownLineUptoSaid : Prop := fnShownLineUptoRow.holds Tryd.pinned (OpenSpec.upto fnShownLineSpec)

end Rows
end Go.Proofs.YtlfmmmbafkelhaaDoor
