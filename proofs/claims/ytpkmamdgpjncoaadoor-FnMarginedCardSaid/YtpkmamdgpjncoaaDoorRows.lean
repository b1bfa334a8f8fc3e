/-
  NARROWER THAN 'FOR EVERY INPUT', by the rows' own cells (each row's printed sentence says how): FnPaddedBy: laid · FnAnsiWritten: laid · FnTruncated: laid · FnPaddedAgain: laid · FnMargined: laid.
  DERIVED. THE GIVEN ROWS OF THIS SEAT. 5 by the template 'for every input the law returns true; each argument reads behind the call as it read before'; 0 by the template 'total and deterministic' (their statements: YtpkmamdgpjncoaaDoorTotals.lean).
  GIVEN WITH THE SEED: the statements are not yours to turn. If you find one false, say at which input.
  Laid BY PROGRAM, IN A SANDBOX (cutbox-rows.mjs): the forced cells as the released guide's own fill.sh prints them over the translation 3f8de3da4040e72e… (all of the seat's roots in one cut). By AI agents, Wed Nov 11 2026. No macro, syntax, notation, axiom, sorry.
-/
import Derived.Test.YtpkmamdgpjncoaaDoorChecked
import GoSem.Claim
import GoSem.ClaimJoined
import GoSem.ClaimMapViews
import Derived.JoinedTies
import Derived.KernelRfl
namespace Go.Proofs.YtpkmamdgpjncoaaDoor
/- THE CELL 'sum', in the pinned program and in every row, IS THE sha256 OF THE DUMP (.gsa) THAT YtpkmamdgpjncoaaDoorProg.lean LOADS. Nothing in Lean hashes anything: it is a label: what it is worth is what the hold of that sum in a sandbox is worth. -/
noncomputable def Tryd.pinned : Pinned := { name := "ytpkmamdgpjncoaadoor", sum := "3f8de3da4040e72e45ab964f75121fdb714ecf4f7e81877472a0a7ed43963bd1", checked := Tryd.checked }
namespace Rows
def none {H : Type} : Left H := { results := [], args := [] }

/- WHAT THE LISTED PACKAGE-LEVEL VARIABLES READ AS WHEN THE CALL BEGINS. Each datum BY PROGRAM (the guide's laid-datum.mjs) off the statement by which the dump's own 'gosem.cut.vars' lays the variable. In a bare row this is a premise. The card (YtpkmamdgpjncoaaDoorCards.lean) ties it to the program's text. -/
def laid_io_ErrShortWrite {H : Type} : DataW H := .iface "*errors.errorString" (.ptr (.agg [.lit (.string [115, 104, 111, 114, 116, 32, 119, 114, 105, 116, 101])]))
def laid_bytes_ErrTooLarge {H : Type} : DataW H := .iface "*errors.errorString" (.ptr (.agg [.lit (.string [98, 121, 116, 101, 115, 46, 66, 117, 102, 102, 101, 114, 58, 32, 116, 111, 111, 32, 108, 97, 114, 103, 101])]))

/-- 'laws.FnPaddedBy': WHATEVER THE INPUT: true; the input reads as it did. -/
def fnPaddedBySpec : ChangeSpec := { name := "fnPaddedBy", fn := fun _ => fun
  | [d1, d2, d3, d4] => { results := [.lit (.bool true)], args := [d1, d2, d3, d4] }
  | _ => none }
def fnPaddedByRow : OpenClaim := { program := "ytpkmamdgpjncoaadoor", sum := "3f8de3da4040e72e45ab964f75121fdb714ecf4f7e81877472a0a7ed43963bd1", func := "given.example/pub-typebar/laws.FnPaddedBy", spec := "fnPaddedBy", inPlace := ["internal/abi.NoEscape", "internal/bytealg.MakeNoZero"], unfollowed := true, recurses := true, named := ["bytes.ErrTooLarge", "io.ErrShortWrite"], apart := false, laid := [("io.ErrShortWrite", laid_io_ErrShortWrite), ("bytes.ErrTooLarge", laid_bytes_ErrTooLarge)] }
def FnPaddedBySaid : Prop := fnPaddedByRow.holds Tryd.pinned (OpenSpec.ofChange fnPaddedBySpec)

/-- ITS FALSE NEIGHBOUR: 'it returns false'. Refute it at one input. -/
def fnPaddedByWrong : ChangeSpec := { name := "fnPaddedBy", fn := fun _ => fun
  | [d1, d2, d3, d4] => { results := [.lit (.bool false)], args := [d1, d2, d3, d4] }
  | _ => none }
def FnPaddedByWrongFalsely : Prop := fnPaddedByRow.holds Tryd.pinned (OpenSpec.ofChange fnPaddedByWrong)

/-- 'laws.FnAnsiWritten': WHATEVER THE INPUT: true; the input reads as it did. -/
def fnAnsiWrittenSpec : ChangeSpec := { name := "fnAnsiWritten", fn := fun _ => fun
  | [d1, d2, d3] => { results := [.lit (.bool true)], args := [d1, d2, d3] }
  | _ => none }
def fnAnsiWrittenRow : OpenClaim := { program := "ytpkmamdgpjncoaadoor", sum := "3f8de3da4040e72e45ab964f75121fdb714ecf4f7e81877472a0a7ed43963bd1", func := "given.example/pub-typebar/laws.FnAnsiWritten", spec := "fnAnsiWritten", unfollowed := true, recurses := true, named := ["bytes.ErrTooLarge", "io.ErrShortWrite"], apart := false, laid := [("io.ErrShortWrite", laid_io_ErrShortWrite), ("bytes.ErrTooLarge", laid_bytes_ErrTooLarge)] }
def FnAnsiWrittenSaid : Prop := fnAnsiWrittenRow.holds Tryd.pinned (OpenSpec.ofChange fnAnsiWrittenSpec)

/-- ITS FALSE NEIGHBOUR: 'it returns false'. Refute it at one input. -/
def fnAnsiWrittenWrong : ChangeSpec := { name := "fnAnsiWritten", fn := fun _ => fun
  | [d1, d2, d3] => { results := [.lit (.bool false)], args := [d1, d2, d3] }
  | _ => none }
def FnAnsiWrittenWrongFalsely : Prop := fnAnsiWrittenRow.holds Tryd.pinned (OpenSpec.ofChange fnAnsiWrittenWrong)

/-- 'laws.FnTruncated': WHATEVER THE INPUT: true; the input reads as it did. -/
def fnTruncatedSpec : ChangeSpec := { name := "fnTruncated", fn := fun _ => fun
  | [d1, d2, d3] => { results := [.lit (.bool true)], args := [d1, d2, d3] }
  | _ => none }
def fnTruncatedRow : OpenClaim := { program := "ytpkmamdgpjncoaadoor", sum := "3f8de3da4040e72e45ab964f75121fdb714ecf4f7e81877472a0a7ed43963bd1", func := "given.example/pub-typebar/laws.FnTruncated", spec := "fnTruncated", unfollowed := true, recurses := true, named := ["bytes.ErrTooLarge", "io.ErrShortWrite"], apart := false, laid := [("io.ErrShortWrite", laid_io_ErrShortWrite), ("bytes.ErrTooLarge", laid_bytes_ErrTooLarge)] }
def FnTruncatedSaid : Prop := fnTruncatedRow.holds Tryd.pinned (OpenSpec.ofChange fnTruncatedSpec)

/-- ITS FALSE NEIGHBOUR: 'it returns false'. Refute it at one input. -/
def fnTruncatedWrong : ChangeSpec := { name := "fnTruncated", fn := fun _ => fun
  | [d1, d2, d3] => { results := [.lit (.bool false)], args := [d1, d2, d3] }
  | _ => none }
def FnTruncatedWrongFalsely : Prop := fnTruncatedRow.holds Tryd.pinned (OpenSpec.ofChange fnTruncatedWrong)

/-- 'laws.FnPaddedAgain': WHATEVER THE INPUT: true; the input reads as it did. -/
def fnPaddedAgainSpec : ChangeSpec := { name := "fnPaddedAgain", fn := fun _ => fun
  | [d1, d2, d3] => { results := [.lit (.bool true)], args := [d1, d2, d3] }
  | _ => none }
def fnPaddedAgainRow : OpenClaim := { program := "ytpkmamdgpjncoaadoor", sum := "3f8de3da4040e72e45ab964f75121fdb714ecf4f7e81877472a0a7ed43963bd1", func := "given.example/pub-typebar/laws.FnPaddedAgain", spec := "fnPaddedAgain", inPlace := ["internal/abi.NoEscape", "internal/bytealg.MakeNoZero"], unfollowed := true, recurses := true, named := ["bytes.ErrTooLarge", "io.ErrShortWrite"], apart := false, laid := [("io.ErrShortWrite", laid_io_ErrShortWrite), ("bytes.ErrTooLarge", laid_bytes_ErrTooLarge)] }
def FnPaddedAgainSaid : Prop := fnPaddedAgainRow.holds Tryd.pinned (OpenSpec.ofChange fnPaddedAgainSpec)

/-- ITS FALSE NEIGHBOUR: 'it returns false'. Refute it at one input. -/
def fnPaddedAgainWrong : ChangeSpec := { name := "fnPaddedAgain", fn := fun _ => fun
  | [d1, d2, d3] => { results := [.lit (.bool false)], args := [d1, d2, d3] }
  | _ => none }
def FnPaddedAgainWrongFalsely : Prop := fnPaddedAgainRow.holds Tryd.pinned (OpenSpec.ofChange fnPaddedAgainWrong)

/-- 'laws.FnMargined': WHATEVER THE INPUT: true; the input reads as it did. -/
def fnMarginedSpec : ChangeSpec := { name := "fnMargined", fn := fun _ => fun
  | [d1, d2, d3] => { results := [.lit (.bool true)], args := [d1, d2, d3] }
  | _ => none }
def fnMarginedRow : OpenClaim := { program := "ytpkmamdgpjncoaadoor", sum := "3f8de3da4040e72e45ab964f75121fdb714ecf4f7e81877472a0a7ed43963bd1", func := "given.example/pub-typebar/laws.FnMargined", spec := "fnMargined", inPlace := ["internal/abi.NoEscape", "internal/bytealg.MakeNoZero"], unfollowed := true, recurses := true, named := ["bytes.ErrTooLarge", "io.ErrShortWrite"], apart := false, laid := [("io.ErrShortWrite", laid_io_ErrShortWrite), ("bytes.ErrTooLarge", laid_bytes_ErrTooLarge)] }
def FnMarginedSaid : Prop := fnMarginedRow.holds Tryd.pinned (OpenSpec.ofChange fnMarginedSpec)

/-- ITS FALSE NEIGHBOUR: 'it returns false'. Refute it at one input. -/
def fnMarginedWrong : ChangeSpec := { name := "fnMargined", fn := fun _ => fun
  | [d1, d2, d3] => { results := [.lit (.bool false)], args := [d1, d2, d3] }
  | _ => none }
def FnMarginedWrongFalsely : Prop := fnMarginedRow.holds Tryd.pinned (OpenSpec.ofChange fnMarginedWrong)

/- THE SECOND FORM. 'bulk': how many values and letters a reading holds, each counted each time it is reached (what is shared counts as often as it is met; a slice's spare places count too). A statement '..UptoSaid' is the law's where the arguments, and the package variables that the reading takes, are together of bulk at most 1048576: NARROWER than '..Said'. Prove '..Said' where nothing that the law and all that it calls make is longer than what came in: it says more and counts as full. Else prove '..UptoSaid'. A law counts once. -/
mutual
def uptoBulk {H : Type} : DataW H → Nat
  | .lit (.string bytes) => bytes.length + 1
  | .lit _ => 1
  | .nil => 1
  | .ptr d => uptoBulk d + 1
  | .slice elems spare => uptoBulkAll elems + uptoBulkAll spare + 1
  | .agg parts => uptoBulkAll parts + 1
  | .iface _ d => uptoBulk d + 1
  | .map entries => uptoBulkEntries entries + 1
  | .held _ => 1
def uptoBulkAll {H : Type} : List (DataW H) → Nat
  | [] => 0
  | d :: r => uptoBulk d + uptoBulkAll r
def uptoBulkEntries {H : Type} : List (Lit × DataW H) → Nat
  | [] => 0
  | x :: r => uptoBulkEntry x + uptoBulkEntries r
def uptoBulkEntry {H : Type} : Lit × DataW H → Nat
  | (.string bytes, d) => bytes.length + uptoBulk d + 1
  | (_, d) => uptoBulk d + 1
 end
def uptoSmall : (H : Type) → List (DataW H) → Bool := fun _ ds => decide (uptoBulkAll ds ≤ 1048576)
def OpenSpec.upto (s : _root_.Go.ChangeSpec) : _root_.Go.OpenSpec := { _root_.Go.OpenSpec.ofChange s with cond := some uptoSmall }

/-- 'laws.FnPaddedBy', WHERE WHAT IT READS IS OF BULK AT MOST 1048576: true; the input reads as it did. -/
def fnPaddedByUptoRow : OpenClaim := { program := "ytpkmamdgpjncoaadoor", sum := "3f8de3da4040e72e45ab964f75121fdb714ecf4f7e81877472a0a7ed43963bd1", func := "given.example/pub-typebar/laws.FnPaddedBy", spec := "fnPaddedBy", inPlace := ["internal/abi.NoEscape", "internal/bytealg.MakeNoZero"], unfollowed := true, recurses := true, named := ["bytes.ErrTooLarge", "io.ErrShortWrite"], apart := false, laid := [("io.ErrShortWrite", laid_io_ErrShortWrite), ("bytes.ErrTooLarge", laid_bytes_ErrTooLarge)], narrowed := true }
def FnPaddedByUptoSaid : Prop := fnPaddedByUptoRow.holds Tryd.pinned (OpenSpec.upto fnPaddedBySpec)

/-- 'laws.FnAnsiWritten', WHERE WHAT IT READS IS OF BULK AT MOST 1048576: true; the input reads as it did. -/
def fnAnsiWrittenUptoRow : OpenClaim := { program := "ytpkmamdgpjncoaadoor", sum := "3f8de3da4040e72e45ab964f75121fdb714ecf4f7e81877472a0a7ed43963bd1", func := "given.example/pub-typebar/laws.FnAnsiWritten", spec := "fnAnsiWritten", unfollowed := true, recurses := true, named := ["bytes.ErrTooLarge", "io.ErrShortWrite"], apart := false, laid := [("io.ErrShortWrite", laid_io_ErrShortWrite), ("bytes.ErrTooLarge", laid_bytes_ErrTooLarge)], narrowed := true }
def FnAnsiWrittenUptoSaid : Prop := fnAnsiWrittenUptoRow.holds Tryd.pinned (OpenSpec.upto fnAnsiWrittenSpec)

/-- 'laws.FnTruncated', WHERE WHAT IT READS IS OF BULK AT MOST 1048576: true; the input reads as it did. -/
def fnTruncatedUptoRow : OpenClaim := { program := "ytpkmamdgpjncoaadoor", sum := "3f8de3da4040e72e45ab964f75121fdb714ecf4f7e81877472a0a7ed43963bd1", func := "given.example/pub-typebar/laws.FnTruncated", spec := "fnTruncated", unfollowed := true, recurses := true, named := ["bytes.ErrTooLarge", "io.ErrShortWrite"], apart := false, laid := [("io.ErrShortWrite", laid_io_ErrShortWrite), ("bytes.ErrTooLarge", laid_bytes_ErrTooLarge)], narrowed := true }
def FnTruncatedUptoSaid : Prop := fnTruncatedUptoRow.holds Tryd.pinned (OpenSpec.upto fnTruncatedSpec)

/-- 'laws.FnPaddedAgain', WHERE WHAT IT READS IS OF BULK AT MOST 1048576: true; the input reads as it did. -/
def fnPaddedAgainUptoRow : OpenClaim := { program := "ytpkmamdgpjncoaadoor", sum := "3f8de3da4040e72e45ab964f75121fdb714ecf4f7e81877472a0a7ed43963bd1", func := "given.example/pub-typebar/laws.FnPaddedAgain", spec := "fnPaddedAgain", inPlace := ["internal/abi.NoEscape", "internal/bytealg.MakeNoZero"], unfollowed := true, recurses := true, named := ["bytes.ErrTooLarge", "io.ErrShortWrite"], apart := false, laid := [("io.ErrShortWrite", laid_io_ErrShortWrite), ("bytes.ErrTooLarge", laid_bytes_ErrTooLarge)], narrowed := true }
def FnPaddedAgainUptoSaid : Prop := fnPaddedAgainUptoRow.holds Tryd.pinned (OpenSpec.upto fnPaddedAgainSpec)

/-- 'laws.FnMargined', WHERE WHAT IT READS IS OF BULK AT MOST 1048576: true; the input reads as it did. -/
def fnMarginedUptoRow : OpenClaim := { program := "ytpkmamdgpjncoaadoor", sum := "3f8de3da4040e72e45ab964f75121fdb714ecf4f7e81877472a0a7ed43963bd1", func := "given.example/pub-typebar/laws.FnMargined", spec := "fnMargined", inPlace := ["internal/abi.NoEscape", "internal/bytealg.MakeNoZero"], unfollowed := true, recurses := true, named := ["bytes.ErrTooLarge", "io.ErrShortWrite"], apart := false, laid := [("io.ErrShortWrite", laid_io_ErrShortWrite), ("bytes.ErrTooLarge", laid_bytes_ErrTooLarge)], narrowed := true }
def FnMarginedUptoSaid : Prop := fnMarginedUptoRow.holds Tryd.pinned (OpenSpec.upto fnMarginedSpec)

end Rows
end Go.Proofs.YtpkmamdgpjncoaaDoor
