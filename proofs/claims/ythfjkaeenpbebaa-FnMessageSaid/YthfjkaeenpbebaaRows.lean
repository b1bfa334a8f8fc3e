/-
  No cell of these rows narrows 'for every input' (looked for: loops, veiled, ifaces, maps, wideKeys, modest, calm, conditions, laid).
  DERIVED. THE GIVEN ROWS OF THIS SEAT. 6 by the template 'for every input the law returns true; each argument reads behind the call as it read before'; 0 by the template 'total and deterministic' (their statements: YthfjkaeenpbebaaTotals.lean).
  GIVEN WITH THE SEED: the statements are not yours to turn. If you find one false, say at which input.
  Laid BY PROGRAM, IN A SANDBOX (cutbox-rows.mjs): the forced cells as the released guide's own fill.sh prints them over the translation 549cefe5e5aa060c… (all of the seat's roots in one cut). By AI agents, Wed Nov 11 2026. No macro, syntax, notation, axiom, sorry.
-/
import Derived.Test.YthfjkaeenpbebaaChecked
import GoSem.Claim
import GoSem.ClaimJoined
import GoSem.ClaimMapViews
import Derived.JoinedTies
import Derived.KernelRfl
namespace Go.Proofs.Ythfjkaeenpbebaa
/- THE CELL 'sum', in the pinned program and in every row, IS THE sha256 OF THE DUMP (.gsa) THAT YthfjkaeenpbebaaProg.lean LOADS. Nothing in Lean hashes anything: it is a label: what it is worth is what the hold of that sum in a sandbox is worth. -/
noncomputable def Try.pinned : Pinned := { name := "ythfjkaeenpbebaa", sum := "549cefe5e5aa060c59a408386f6ce07c0a8dc4f5b1b6cb29ab262ba65656ee04", checked := Try.checked }
namespace Rows
def none {H : Type} : Left H := { results := [], args := [] }

/-- 'laws.FnTerminator': WHATEVER THE INPUT: true; the input reads as it did. -/
def fnTerminatorSpec : ChangeSpec := { name := "fnTerminator", fn := fun _ => fun
  | [d] => { results := [.lit (.bool true)], args := [d] }
  | _ => none }
def fnTerminatorRow : OpenClaim := { program := "ythfjkaeenpbebaa", sum := "549cefe5e5aa060c59a408386f6ce07c0a8dc4f5b1b6cb29ab262ba65656ee04", func := "given.example/pub-typebar/laws.FnTerminator", spec := "fnTerminator", apart := false }
def FnTerminatorSaid : Prop := fnTerminatorRow.holds Try.pinned (OpenSpec.ofChange fnTerminatorSpec)

/-- ITS FALSE NEIGHBOUR: 'it returns false'. Refute it at one input. -/
def fnTerminatorWrong : ChangeSpec := { name := "fnTerminator", fn := fun _ => fun
  | [d] => { results := [.lit (.bool false)], args := [d] }
  | _ => none }
def FnTerminatorWrongFalsely : Prop := fnTerminatorRow.holds Try.pinned (OpenSpec.ofChange fnTerminatorWrong)

/-- 'laws.FnSplitJoined': WHATEVER THE INPUT: true; the input reads as it did. -/
def fnSplitJoinedSpec : ChangeSpec := { name := "fnSplitJoined", fn := fun _ => fun
  | [d1, d2] => { results := [.lit (.bool true)], args := [d1, d2] }
  | _ => none }
def fnSplitJoinedRow : OpenClaim := { program := "ythfjkaeenpbebaa", sum := "549cefe5e5aa060c59a408386f6ce07c0a8dc4f5b1b6cb29ab262ba65656ee04", func := "given.example/pub-typebar/laws.FnSplitJoined", spec := "fnSplitJoined", apart := false }
def FnSplitJoinedSaid : Prop := fnSplitJoinedRow.holds Try.pinned (OpenSpec.ofChange fnSplitJoinedSpec)

/-- ITS FALSE NEIGHBOUR: 'it returns false'. Refute it at one input. -/
def fnSplitJoinedWrong : ChangeSpec := { name := "fnSplitJoined", fn := fun _ => fun
  | [d1, d2] => { results := [.lit (.bool false)], args := [d1, d2] }
  | _ => none }
def FnSplitJoinedWrongFalsely : Prop := fnSplitJoinedRow.holds Try.pinned (OpenSpec.ofChange fnSplitJoinedWrong)

/-- 'laws.FnSplitLine': WHATEVER THE INPUT: true; the input reads as it did. -/
def fnSplitLineSpec : ChangeSpec := { name := "fnSplitLine", fn := fun _ => fun
  | [d1, d2] => { results := [.lit (.bool true)], args := [d1, d2] }
  | _ => none }
def fnSplitLineRow : OpenClaim := { program := "ythfjkaeenpbebaa", sum := "549cefe5e5aa060c59a408386f6ce07c0a8dc4f5b1b6cb29ab262ba65656ee04", func := "given.example/pub-typebar/laws.FnSplitLine", spec := "fnSplitLine", apart := false }
def FnSplitLineSaid : Prop := fnSplitLineRow.holds Try.pinned (OpenSpec.ofChange fnSplitLineSpec)

/-- ITS FALSE NEIGHBOUR: 'it returns false'. Refute it at one input. -/
def fnSplitLineWrong : ChangeSpec := { name := "fnSplitLine", fn := fun _ => fun
  | [d1, d2] => { results := [.lit (.bool false)], args := [d1, d2] }
  | _ => none }
def FnSplitLineWrongFalsely : Prop := fnSplitLineRow.holds Try.pinned (OpenSpec.ofChange fnSplitLineWrong)

/-- 'laws.FnMessage': WHATEVER THE INPUT: true; the input reads as it did. -/
def fnMessageSpec : ChangeSpec := { name := "fnMessage", fn := fun _ => fun
  | [d1, d2, d3] => { results := [.lit (.bool true)], args := [d1, d2, d3] }
  | _ => none }
def fnMessageRow : OpenClaim := { program := "ythfjkaeenpbebaa", sum := "549cefe5e5aa060c59a408386f6ce07c0a8dc4f5b1b6cb29ab262ba65656ee04", func := "given.example/pub-typebar/laws.FnMessage", spec := "fnMessage", unfollowed := true, recurses := true, apart := false }
def FnMessageSaid : Prop := fnMessageRow.holds Try.pinned (OpenSpec.ofChange fnMessageSpec)

/-- ITS FALSE NEIGHBOUR: 'it returns false'. Refute it at one input. -/
def fnMessageWrong : ChangeSpec := { name := "fnMessage", fn := fun _ => fun
  | [d1, d2, d3] => { results := [.lit (.bool false)], args := [d1, d2, d3] }
  | _ => none }
def FnMessageWrongFalsely : Prop := fnMessageRow.holds Try.pinned (OpenSpec.ofChange fnMessageWrong)

/-- 'laws.FnFold': WHATEVER THE INPUT: true; the input reads as it did. -/
def fnFoldSpec : ChangeSpec := { name := "fnFold", fn := fun _ => fun
  | [d1, d2] => { results := [.lit (.bool true)], args := [d1, d2] }
  | _ => none }
def fnFoldRow : OpenClaim := { program := "ythfjkaeenpbebaa", sum := "549cefe5e5aa060c59a408386f6ce07c0a8dc4f5b1b6cb29ab262ba65656ee04", func := "given.example/pub-typebar/laws.FnFold", spec := "fnFold", apart := false }
def FnFoldSaid : Prop := fnFoldRow.holds Try.pinned (OpenSpec.ofChange fnFoldSpec)

/-- ITS FALSE NEIGHBOUR: 'it returns false'. Refute it at one input. -/
def fnFoldWrong : ChangeSpec := { name := "fnFold", fn := fun _ => fun
  | [d1, d2] => { results := [.lit (.bool false)], args := [d1, d2] }
  | _ => none }
def FnFoldWrongFalsely : Prop := fnFoldRow.holds Try.pinned (OpenSpec.ofChange fnFoldWrong)

/-- 'laws.FnIndexAll': WHATEVER THE INPUT: true; the input reads as it did. -/
def fnIndexAllSpec : ChangeSpec := { name := "fnIndexAll", fn := fun _ => fun
  | [d1, d2, d3] => { results := [.lit (.bool true)], args := [d1, d2, d3] }
  | _ => none }
def fnIndexAllRow : OpenClaim := { program := "ythfjkaeenpbebaa", sum := "549cefe5e5aa060c59a408386f6ce07c0a8dc4f5b1b6cb29ab262ba65656ee04", func := "given.example/pub-typebar/laws.FnIndexAll", spec := "fnIndexAll", apart := false }
def FnIndexAllSaid : Prop := fnIndexAllRow.holds Try.pinned (OpenSpec.ofChange fnIndexAllSpec)

/-- ITS FALSE NEIGHBOUR: 'it returns false'. Refute it at one input. -/
def fnIndexAllWrong : ChangeSpec := { name := "fnIndexAll", fn := fun _ => fun
  | [d1, d2, d3] => { results := [.lit (.bool false)], args := [d1, d2, d3] }
  | _ => none }
def FnIndexAllWrongFalsely : Prop := fnIndexAllRow.holds Try.pinned (OpenSpec.ofChange fnIndexAllWrong)

/- THE SECOND FORM. 'bulk': how many values and letters a reading holds, each counted each time it is reached (what is shared counts as often as it is met; a slice's spare places count too). A statement '..UptoSaid' is the law's where the arguments, and the package variables that the reading takes, are together of bulk at most 1048576: NARROWER than '..Said'. Prove '..Said' where nothing that the law and all that it calls make is longer than what came in: it says more and counts as full. Else prove '..UptoSaid'. A law counts once. -/
mutual
def uptoBulk {H : Type} : DataW H → Nat
  | .lit (.string bytes) => bytes.length + 1
  | .lit _ => 1
  | .nil => 1
  | .ptr d => uptoBulk d + 1
  | .slice elems spare => uptoBulkAll elems + uptoBulkAll spare + 1
  | .agg parts => uptoBulkAll parts + 1
  | .iface _ d => uptoBulk d + 1
  | .map entries => uptoBulkEntries entries + 1
  | .held _ => 1
def uptoBulkAll {H : Type} : List (DataW H) → Nat
  | [] => 0
  | d :: r => uptoBulk d + uptoBulkAll r
def uptoBulkEntries {H : Type} : List (Lit × DataW H) → Nat
  | [] => 0
  | x :: r => uptoBulkEntry x + uptoBulkEntries r
def uptoBulkEntry {H : Type} : Lit × DataW H → Nat
  | (.string bytes, d) => bytes.length + uptoBulk d + 1
  | (_, d) => uptoBulk d + 1
 end
def uptoSmall : (H : Type) → List (DataW H) → Bool := fun _ ds => decide (uptoBulkAll ds ≤ 1048576)
def OpenSpec.upto (s : _root_.Go.ChangeSpec) : _root_.Go.OpenSpec := { _root_.Go.OpenSpec.ofChange s with cond := some uptoSmall }

/-- 'laws.FnTerminator', WHERE WHAT IT READS IS OF BULK AT MOST 1048576: true; the input reads as it did. -/
def fnTerminatorUptoRow : OpenClaim := { program := "ythfjkaeenpbebaa", sum := "549cefe5e5aa060c59a408386f6ce07c0a8dc4f5b1b6cb29ab262ba65656ee04", func := "given.example/pub-typebar/laws.FnTerminator", spec := "fnTerminator", apart := false, narrowed := true }
def FnTerminatorUptoSaid : Prop := fnTerminatorUptoRow.holds Try.pinned (OpenSpec.upto fnTerminatorSpec)

/-- 'laws.FnSplitJoined', WHERE WHAT IT READS IS OF BULK AT MOST 1048576: true; the input reads as it did. -/
def fnSplitJoinedUptoRow : OpenClaim := { program := "ythfjkaeenpbebaa", sum := "549cefe5e5aa060c59a408386f6ce07c0a8dc4f5b1b6cb29ab262ba65656ee04", func := "given.example/pub-typebar/laws.FnSplitJoined", spec := "fnSplitJoined", apart := false, narrowed := true }
def FnSplitJoinedUptoSaid : Prop := fnSplitJoinedUptoRow.holds Try.pinned (OpenSpec.upto fnSplitJoinedSpec)

/-- 'laws.FnSplitLine', WHERE WHAT IT READS IS OF BULK AT MOST 1048576: true; the input reads as it did. -/
def fnSplitLineUptoRow : OpenClaim := { program := "ythfjkaeenpbebaa", sum := "549cefe5e5aa060c59a408386f6ce07c0a8dc4f5b1b6cb29ab262ba65656ee04", func := "given.example/pub-typebar/laws.FnSplitLine", spec := "fnSplitLine", apart := false, narrowed := true }
def FnSplitLineUptoSaid : Prop := fnSplitLineUptoRow.holds Try.pinned (OpenSpec.upto fnSplitLineSpec)

/-- 'laws.FnMessage', WHERE WHAT IT READS IS OF BULK AT MOST 1048576: true; the input reads as it did. -/
def fnMessageUptoRow : OpenClaim := { program := "ythfjkaeenpbebaa", sum := "549cefe5e5aa060c59a408386f6ce07c0a8dc4f5b1b6cb29ab262ba65656ee04", func := "given.example/pub-typebar/laws.FnMessage", spec := "fnMessage", unfollowed := true, recurses := true, apart := false, narrowed := true }
def FnMessageUptoSaid : Prop := fnMessageUptoRow.holds Try.pinned (OpenSpec.upto fnMessageSpec)

/-- 'laws.FnFold', WHERE WHAT IT READS IS OF BULK AT MOST 1048576: true; the input reads as it did. -/
def fnFoldUptoRow : OpenClaim := { program := "ythfjkaeenpbebaa", sum := "549cefe5e5aa060c59a408386f6ce07c0a8dc4f5b1b6cb29ab262ba65656ee04", func := "given.example/pub-typebar/laws.FnFold", spec := "fnFold", apart := false, narrowed := true }
def FnFoldUptoSaid : Prop := fnFoldUptoRow.holds Try.pinned (OpenSpec.upto fnFoldSpec)

/-- 'laws.FnIndexAll', WHERE WHAT IT READS IS OF BULK AT MOST 1048576: true; the input reads as it did. -/
def fnIndexAllUptoRow : OpenClaim := { program := "ythfjkaeenpbebaa", sum := "549cefe5e5aa060c59a408386f6ce07c0a8dc4f5b1b6cb29ab262ba65656ee04", func := "given.example/pub-typebar/laws.FnIndexAll", spec := "fnIndexAll", apart := false, narrowed := true }
def FnIndexAllUptoSaid : Prop := fnIndexAllUptoRow.holds Try.pinned (OpenSpec.upto fnIndexAllSpec)

end Rows
end Go.Proofs.Ythfjkaeenpbebaa
