/-
  No cell of these rows narrows 'for every input' (looked for: loops, veiled, ifaces, maps, wideKeys, modest, calm, conditions, laid).
  DERIVED. THE GIVEN ROWS OF THIS SEAT. 8 by the template 'for every input the law returns true; each argument reads behind the call as it read before'; 0 by the template 'total and deterministic' (their statements: YtbkdppfjmfepiaaTotals.lean).
  GIVEN WITH THE SEED: the statements are not yours to turn. If you find one false, say at which input.
  Laid BY PROGRAM, IN A SANDBOX (cutbox-rows.mjs): the forced cells as the released guide's own fill.sh prints them over the translation 436bccb6c4f0629e… (all of the seat's roots in one cut). By AI agents, Wed Nov 11 2026. No macro, syntax, notation, axiom, sorry.
-/
import Derived.Test.YtbkdppfjmfepiaaChecked
import GoSem.Claim
import GoSem.ClaimJoined
import GoSem.ClaimMapViews
import Derived.JoinedTies
import Derived.KernelRfl
namespace Go.Proofs.Ytbkdppfjmfepiaa
/- THE CELL 'sum', in the pinned program and in every row, IS THE sha256 OF THE DUMP (.gsa) THAT YtbkdppfjmfepiaaProg.lean LOADS. Nothing in Lean hashes anything: it is a label: what it is worth is what the hold of that sum in a sandbox is worth. -/
noncomputable def Try.pinned : Pinned := { name := "ytbkdppfjmfepiaa", sum := "436bccb6c4f0629e3f0d67d1865ec2ade0e49fff5e68491687a586658d580636", checked := Try.checked }
namespace Rows
def none {H : Type} : Left H := { results := [], args := [] }

/-- 'laws.FnRoom': WHATEVER THE INPUT: true; the input reads as it did. -/
def fnRoomSpec : ChangeSpec := { name := "fnRoom", fn := fun _ => fun
  | [d1, d2, d3] => { results := [.lit (.bool true)], args := [d1, d2, d3] }
  | _ => none }
def fnRoomRow : OpenClaim := { program := "ytbkdppfjmfepiaa", sum := "436bccb6c4f0629e3f0d67d1865ec2ade0e49fff5e68491687a586658d580636", func := "given.example/pub-typebar/laws.FnRoom", spec := "fnRoom", unfollowed := true, recurses := true, apart := false }
def FnRoomSaid : Prop := fnRoomRow.holds Try.pinned (OpenSpec.ofChange fnRoomSpec)

/-- ITS FALSE NEIGHBOUR: 'it returns false'. Refute it at one input. -/
def fnRoomWrong : ChangeSpec := { name := "fnRoom", fn := fun _ => fun
  | [d1, d2, d3] => { results := [.lit (.bool false)], args := [d1, d2, d3] }
  | _ => none }
def FnRoomWrongFalsely : Prop := fnRoomRow.holds Try.pinned (OpenSpec.ofChange fnRoomWrong)

/-- 'laws.FnShownWindow': WHATEVER THE INPUT: true; the input reads as it did. -/
def fnShownWindowSpec : ChangeSpec := { name := "fnShownWindow", fn := fun _ => fun
  | [d1, d2, d3] => { results := [.lit (.bool true)], args := [d1, d2, d3] }
  | _ => none }
def fnShownWindowRow : OpenClaim := { program := "ytbkdppfjmfepiaa", sum := "436bccb6c4f0629e3f0d67d1865ec2ade0e49fff5e68491687a586658d580636", func := "given.example/pub-typebar/laws.FnShownWindow", spec := "fnShownWindow", unfollowed := true, recurses := true, apart := false }
def FnShownWindowSaid : Prop := fnShownWindowRow.holds Try.pinned (OpenSpec.ofChange fnShownWindowSpec)

/-- ITS FALSE NEIGHBOUR: 'it returns false'. Refute it at one input. -/
def fnShownWindowWrong : ChangeSpec := { name := "fnShownWindow", fn := fun _ => fun
  | [d1, d2, d3] => { results := [.lit (.bool false)], args := [d1, d2, d3] }
  | _ => none }
def FnShownWindowWrongFalsely : Prop := fnShownWindowRow.holds Try.pinned (OpenSpec.ofChange fnShownWindowWrong)

/-- 'laws.FnChosen': WHATEVER THE INPUT: true; the input reads as it did. -/
def fnChosenSpec : ChangeSpec := { name := "fnChosen", fn := fun _ => fun
  | [d1, d2, d3] => { results := [.lit (.bool true)], args := [d1, d2, d3] }
  | _ => none }
def fnChosenRow : OpenClaim := { program := "ytbkdppfjmfepiaa", sum := "436bccb6c4f0629e3f0d67d1865ec2ade0e49fff5e68491687a586658d580636", func := "given.example/pub-typebar/laws.FnChosen", spec := "fnChosen", unfollowed := true, recurses := true, apart := false }
def FnChosenSaid : Prop := fnChosenRow.holds Try.pinned (OpenSpec.ofChange fnChosenSpec)

/-- ITS FALSE NEIGHBOUR: 'it returns false'. Refute it at one input. -/
def fnChosenWrong : ChangeSpec := { name := "fnChosen", fn := fun _ => fun
  | [d1, d2, d3] => { results := [.lit (.bool false)], args := [d1, d2, d3] }
  | _ => none }
def FnChosenWrongFalsely : Prop := fnChosenRow.holds Try.pinned (OpenSpec.ofChange fnChosenWrong)

/-- 'laws.FnHistoryKept': WHATEVER THE INPUT: true; the input reads as it did. -/
def fnHistoryKeptSpec : ChangeSpec := { name := "fnHistoryKept", fn := fun _ => fun
  | [d1, d2] => { results := [.lit (.bool true)], args := [d1, d2] }
  | _ => none }
def fnHistoryKeptRow : OpenClaim := { program := "ytbkdppfjmfepiaa", sum := "436bccb6c4f0629e3f0d67d1865ec2ade0e49fff5e68491687a586658d580636", func := "given.example/pub-typebar/laws.FnHistoryKept", spec := "fnHistoryKept", apart := false }
def FnHistoryKeptSaid : Prop := fnHistoryKeptRow.holds Try.pinned (OpenSpec.ofChange fnHistoryKeptSpec)

/-- ITS FALSE NEIGHBOUR: 'it returns false'. Refute it at one input. -/
def fnHistoryKeptWrong : ChangeSpec := { name := "fnHistoryKept", fn := fun _ => fun
  | [d1, d2] => { results := [.lit (.bool false)], args := [d1, d2] }
  | _ => none }
def FnHistoryKeptWrongFalsely : Prop := fnHistoryKeptRow.holds Try.pinned (OpenSpec.ofChange fnHistoryKeptWrong)

/-- 'laws.FnTurned': WHATEVER THE INPUT: true; the input reads as it did. -/
def fnTurnedSpec : ChangeSpec := { name := "fnTurned", fn := fun _ => fun
  | [d] => { results := [.lit (.bool true)], args := [d] }
  | _ => none }
def fnTurnedRow : OpenClaim := { program := "ytbkdppfjmfepiaa", sum := "436bccb6c4f0629e3f0d67d1865ec2ade0e49fff5e68491687a586658d580636", func := "given.example/pub-typebar/laws.FnTurned", spec := "fnTurned", apart := false }
def FnTurnedSaid : Prop := fnTurnedRow.holds Try.pinned (OpenSpec.ofChange fnTurnedSpec)

/-- ITS FALSE NEIGHBOUR: 'it returns false'. Refute it at one input. -/
def fnTurnedWrong : ChangeSpec := { name := "fnTurned", fn := fun _ => fun
  | [d] => { results := [.lit (.bool false)], args := [d] }
  | _ => none }
def FnTurnedWrongFalsely : Prop := fnTurnedRow.holds Try.pinned (OpenSpec.ofChange fnTurnedWrong)

/-- 'laws.FnMoves': WHATEVER THE INPUT: true; the input reads as it did. -/
def fnMovesSpec : ChangeSpec := { name := "fnMoves", fn := fun _ => fun
  | [d1, d2, d3] => { results := [.lit (.bool true)], args := [d1, d2, d3] }
  | _ => none }
def fnMovesRow : OpenClaim := { program := "ytbkdppfjmfepiaa", sum := "436bccb6c4f0629e3f0d67d1865ec2ade0e49fff5e68491687a586658d580636", func := "given.example/pub-typebar/laws.FnMoves", spec := "fnMoves", unfollowed := true, recurses := true, apart := false }
def FnMovesSaid : Prop := fnMovesRow.holds Try.pinned (OpenSpec.ofChange fnMovesSpec)

/-- ITS FALSE NEIGHBOUR: 'it returns false'. Refute it at one input. -/
def fnMovesWrong : ChangeSpec := { name := "fnMoves", fn := fun _ => fun
  | [d1, d2, d3] => { results := [.lit (.bool false)], args := [d1, d2, d3] }
  | _ => none }
def FnMovesWrongFalsely : Prop := fnMovesRow.holds Try.pinned (OpenSpec.ofChange fnMovesWrong)

/-- 'laws.FnAround': WHATEVER THE INPUT: true; the input reads as it did. -/
def fnAroundSpec : ChangeSpec := { name := "fnAround", fn := fun _ => fun
  | [d] => { results := [.lit (.bool true)], args := [d] }
  | _ => none }
def fnAroundRow : OpenClaim := { program := "ytbkdppfjmfepiaa", sum := "436bccb6c4f0629e3f0d67d1865ec2ade0e49fff5e68491687a586658d580636", func := "given.example/pub-typebar/laws.FnAround", spec := "fnAround", inPlace := ["internal/bytealg.IndexByteString"], unfollowed := true, recurses := true, apart := false }
def FnAroundSaid : Prop := fnAroundRow.holds Try.pinned (OpenSpec.ofChange fnAroundSpec)

/-- ITS FALSE NEIGHBOUR: 'it returns false'. Refute it at one input. -/
def fnAroundWrong : ChangeSpec := { name := "fnAround", fn := fun _ => fun
  | [d] => { results := [.lit (.bool false)], args := [d] }
  | _ => none }
def FnAroundWrongFalsely : Prop := fnAroundRow.holds Try.pinned (OpenSpec.ofChange fnAroundWrong)

/-- 'laws.FnSuggested': WHATEVER THE INPUT: true; the input reads as it did. -/
def fnSuggestedSpec : ChangeSpec := { name := "fnSuggested", fn := fun _ => fun
  | [d1, d2] => { results := [.lit (.bool true)], args := [d1, d2] }
  | _ => none }
def fnSuggestedRow : OpenClaim := { program := "ytbkdppfjmfepiaa", sum := "436bccb6c4f0629e3f0d67d1865ec2ade0e49fff5e68491687a586658d580636", func := "given.example/pub-typebar/laws.FnSuggested", spec := "fnSuggested", inPlace := ["internal/abi.NoEscape", "internal/bytealg.MakeNoZero"], unfollowed := true, recurses := true, apart := false }
def FnSuggestedSaid : Prop := fnSuggestedRow.holds Try.pinned (OpenSpec.ofChange fnSuggestedSpec)

/-- ITS FALSE NEIGHBOUR: 'it returns false'. Refute it at one input. -/
def fnSuggestedWrong : ChangeSpec := { name := "fnSuggested", fn := fun _ => fun
  | [d1, d2] => { results := [.lit (.bool false)], args := [d1, d2] }
  | _ => none }
def FnSuggestedWrongFalsely : Prop := fnSuggestedRow.holds Try.pinned (OpenSpec.ofChange fnSuggestedWrong)

/- THE SECOND FORM. 'bulk': how many values and letters a reading holds, each counted each time it is reached (what is shared counts as often as it is met; a slice's spare places count too). A statement '..UptoSaid' is the law's where the arguments, and the package variables that the reading takes, are together of bulk at most 1048576: NARROWER than '..Said'. Prove '..Said' where nothing that the law and all that it calls make is longer than what came in: it says more and counts as full. Else prove '..UptoSaid'. A law counts once. -/
mutual
def uptoBulk {H : Type} : DataW H → Nat
  | .lit (.string bytes) => bytes.length + 1
  | .lit _ => 1
  | .nil => 1
  | .ptr d => uptoBulk d + 1
  | .slice elems spare => uptoBulkAll elems + uptoBulkAll spare + 1
  | .agg parts => uptoBulkAll parts + 1
  | .iface _ d => uptoBulk d + 1
  | .map entries => uptoBulkEntries entries + 1
  | .held _ => 1
def uptoBulkAll {H : Type} : List (DataW H) → Nat
  | [] => 0
  | d :: r => uptoBulk d + uptoBulkAll r
def uptoBulkEntries {H : Type} : List (Lit × DataW H) → Nat
  | [] => 0
  | x :: r => uptoBulkEntry x + uptoBulkEntries r
def uptoBulkEntry {H : Type} : Lit × DataW H → Nat
  | (.string bytes, d) => bytes.length + uptoBulk d + 1
  | (_, d) => uptoBulk d + 1
 end
def uptoSmall : (H : Type) → List (DataW H) → Bool := fun _ ds => decide (uptoBulkAll ds ≤ 1048576)
def OpenSpec.upto (s : _root_.Go.ChangeSpec) : _root_.Go.OpenSpec := { _root_.Go.OpenSpec.ofChange s with cond := some uptoSmall }

/-- 'laws.FnRoom', WHERE WHAT IT READS IS OF BULK AT MOST 1048576: true; the input reads as it did. -/
def fnRoomUptoRow : OpenClaim := { program := "ytbkdppfjmfepiaa", sum := "436bccb6c4f0629e3f0d67d1865ec2ade0e49fff5e68491687a586658d580636", func := "given.example/pub-typebar/laws.FnRoom", spec := "fnRoom", unfollowed := true, recurses := true, apart := false, narrowed := true }
def FnRoomUptoSaid : Prop := fnRoomUptoRow.holds Try.pinned (OpenSpec.upto fnRoomSpec)

/-- 'laws.FnShownWindow', WHERE WHAT IT READS IS OF BULK AT MOST 1048576: true; the input reads as it did. -/
def fnShownWindowUptoRow : OpenClaim := { program := "ytbkdppfjmfepiaa", sum := "436bccb6c4f0629e3f0d67d1865ec2ade0e49fff5e68491687a586658d580636", func := "given.example/pub-typebar/laws.FnShownWindow", spec := "fnShownWindow", unfollowed := true, recurses := true, apart := false, narrowed := true }
def FnShownWindowUptoSaid : Prop := fnShownWindowUptoRow.holds Try.pinned (OpenSpec.upto fnShownWindowSpec)

/-- 'laws.FnChosen', WHERE WHAT IT READS IS OF BULK AT MOST 1048576: true; the input reads as it did. -/
def fnChosenUptoRow : OpenClaim := { program := "ytbkdppfjmfepiaa", sum := "436bccb6c4f0629e3f0d67d1865ec2ade0e49fff5e68491687a586658d580636", func := "given.example/pub-typebar/laws.FnChosen", spec := "fnChosen", unfollowed := true, recurses := true, apart := false, narrowed := true }
def FnChosenUptoSaid : Prop := fnChosenUptoRow.holds Try.pinned (OpenSpec.upto fnChosenSpec)

/-- 'laws.FnHistoryKept', WHERE WHAT IT READS IS OF BULK AT MOST 1048576: true; the input reads as it did. -/
def fnHistoryKeptUptoRow : OpenClaim := { program := "ytbkdppfjmfepiaa", sum := "436bccb6c4f0629e3f0d67d1865ec2ade0e49fff5e68491687a586658d580636", func := "given.example/pub-typebar/laws.FnHistoryKept", spec := "fnHistoryKept", apart := false, narrowed := true }
def FnHistoryKeptUptoSaid : Prop := fnHistoryKeptUptoRow.holds Try.pinned (OpenSpec.upto fnHistoryKeptSpec)

/-- 'laws.FnTurned', WHERE WHAT IT READS IS OF BULK AT MOST 1048576: true; the input reads as it did. -/
def fnTurnedUptoRow : OpenClaim := { program := "ytbkdppfjmfepiaa", sum := "436bccb6c4f0629e3f0d67d1865ec2ade0e49fff5e68491687a586658d580636", func := "given.example/pub-typebar/laws.FnTurned", spec := "fnTurned", apart := false, narrowed := true }
def FnTurnedUptoSaid : Prop := fnTurnedUptoRow.holds Try.pinned (OpenSpec.upto fnTurnedSpec)

/-- 'laws.FnMoves', WHERE WHAT IT READS IS OF BULK AT MOST 1048576: true; the input reads as it did. -/
def fnMovesUptoRow : OpenClaim := { program := "ytbkdppfjmfepiaa", sum := "436bccb6c4f0629e3f0d67d1865ec2ade0e49fff5e68491687a586658d580636", func := "given.example/pub-typebar/laws.FnMoves", spec := "fnMoves", unfollowed := true, recurses := true, apart := false, narrowed := true }
def FnMovesUptoSaid : Prop := fnMovesUptoRow.holds Try.pinned (OpenSpec.upto fnMovesSpec)

/-- 'laws.FnAround', WHERE WHAT IT READS IS OF BULK AT MOST 1048576: true; the input reads as it did. -/
def fnAroundUptoRow : OpenClaim := { program := "ytbkdppfjmfepiaa", sum := "436bccb6c4f0629e3f0d67d1865ec2ade0e49fff5e68491687a586658d580636", func := "given.example/pub-typebar/laws.FnAround", spec := "fnAround", inPlace := ["internal/bytealg.IndexByteString"], unfollowed := true, recurses := true, apart := false, narrowed := true }
def FnAroundUptoSaid : Prop := fnAroundUptoRow.holds Try.pinned (OpenSpec.upto fnAroundSpec)

/-- 'laws.FnSuggested', WHERE WHAT IT READS IS OF BULK AT MOST 1048576: true; the input reads as it did. -/
def fnSuggestedUptoRow : OpenClaim := { program := "ytbkdppfjmfepiaa", sum := "436bccb6c4f0629e3f0d67d1865ec2ade0e49fff5e68491687a586658d580636", func := "given.example/pub-typebar/laws.FnSuggested", spec := "fnSuggested", inPlace := ["internal/abi.NoEscape", "internal/bytealg.MakeNoZero"], unfollowed := true, recurses := true, apart := false, narrowed := true }
def FnSuggestedUptoSaid : Prop := fnSuggestedUptoRow.holds Try.pinned (OpenSpec.upto fnSuggestedSpec)

end Rows
end Go.Proofs.Ytbkdppfjmfepiaa
