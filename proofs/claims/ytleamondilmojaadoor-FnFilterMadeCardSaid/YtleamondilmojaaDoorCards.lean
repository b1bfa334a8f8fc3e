/-
  DERIVED. GIVEN WITH THE SEED: THE CARDS: each row of YtleamondilmojaaDoorRows.lean that lists a variable, with what it lists TIED to the program's text (the seventh form; the later family's looks); each row that meets fmt, with fmt's text TOLD by the authors' own Lean function (tested against real Go, not proved from fmt's source: count such statements apart). THE CARD IS WHAT COUNTS. Prove the row's statement (the work); the ties are given (YtleamondilmojaaDoorTie.lean); close each card by the builder's one call (the guide's Derived/Test/ToyasCard.lean, 'card_holds'). Laid BY PROGRAM, IN A SANDBOX (cutbox-door.mjs). By AI agents, Wed Nov 11 2026. No macro, syntax, notation, axiom, sorry.
-/
import Derived.Test.YtleamondilmojaaDoorRows
import GoSem.ClaimSeven
namespace Go.Proofs.YtleamondilmojaaDoor
namespace Rows

/-- THE TIED CARD OF 'laws.FnNotByte'. -/
def fnNotByteCard : Claim7 := { stood := { row := fnNotByteRow, standIns := [], harness := (true, "1229cb660be66a9b5a4ef77a5295d6cb831c462f4caf158a3318d63acd2a7af1"), looks := false }, kinds := [], alts := [], laidByText := true, laidKinds := [.data, .pinned], laidTests := true, laidLooks := .later }
def FnNotByteCardSaid : Prop := Claim7.holds Tryd.pinned (.plain (OpenSpec.ofChange fnNotByteSpec)) fnNotByteCard

/-- THE TIED CARD OF 'laws.FnFilterMade'. -/
def fnFilterMadeCard : Claim7 := { stood := { row := fnFilterMadeRow, standIns := [], harness := (true, "1229cb660be66a9b5a4ef77a5295d6cb831c462f4caf158a3318d63acd2a7af1"), looks := false }, kinds := [], alts := [], laidByText := true, laidKinds := [.data, .pinned, .pinned], laidTests := true, laidLooks := .later }
def FnFilterMadeCardSaid : Prop := Claim7.holds Tryd.pinned (.plain (OpenSpec.ofChange fnFilterMadeSpec)) fnFilterMadeCard

/-- THE TIED CARD OF 'laws.FnInsertAhead'. -/
def fnInsertAheadCard : Claim7 := { stood := { row := fnInsertAheadRow, standIns := [], harness := (true, "1229cb660be66a9b5a4ef77a5295d6cb831c462f4caf158a3318d63acd2a7af1"), looks := false }, kinds := [], alts := [], laidByText := true, laidKinds := [.data, .listed, .data, .pinned], laidTests := true, laidLooks := .later }
def FnInsertAheadCardSaid : Prop := Claim7.holds Tryd.pinned (.plain (OpenSpec.ofChange fnInsertAheadSpec)) fnInsertAheadCard

/-- THE TIED CARD OF 'laws.FnLineJoined'. -/
def fnLineJoinedCard : Claim7 := { stood := { row := fnLineJoinedRow, standIns := [], harness := (true, "1229cb660be66a9b5a4ef77a5295d6cb831c462f4caf158a3318d63acd2a7af1"), looks := false }, kinds := [], alts := [], laidByText := true, laidKinds := [.data, .listed, .data, .pinned], laidTests := true, laidLooks := .later }
def FnLineJoinedCardSaid : Prop := Claim7.holds Tryd.pinned (.plain (OpenSpec.ofChange fnLineJoinedSpec)) fnLineJoinedCard

/-- THE TIED CARD OF 'laws.FnOverwrite'. -/
def fnOverwriteCard : Claim7 := { stood := { row := fnOverwriteRow, standIns := [], harness := (true, "1229cb660be66a9b5a4ef77a5295d6cb831c462f4caf158a3318d63acd2a7af1"), looks := false }, kinds := [], alts := [], laidByText := true, laidKinds := [.data, .listed, .data, .pinned], laidTests := true, laidLooks := .later }
def FnOverwriteCardSaid : Prop := Claim7.holds Tryd.pinned (.plain (OpenSpec.ofChange fnOverwriteSpec)) fnOverwriteCard

/-- THE TIED CARD OF 'laws.FnStepsOne'. -/
def fnStepsOneCard : Claim7 := { stood := { row := fnStepsOneRow, standIns := [], harness := (true, "1229cb660be66a9b5a4ef77a5295d6cb831c462f4caf158a3318d63acd2a7af1"), looks := false }, kinds := [], alts := [], laidByText := true, laidKinds := [.data, .listed, .data, .pinned], laidTests := true, laidLooks := .later }
def FnStepsOneCardSaid : Prop := Claim7.holds Tryd.pinned (.plain (OpenSpec.ofChange fnStepsOneSpec)) fnStepsOneCard

/-- THE TIED CARD OF 'laws.FnLineEnds'. -/
def fnLineEndsCard : Claim7 := { stood := { row := fnLineEndsRow, standIns := [], harness := (true, "1229cb660be66a9b5a4ef77a5295d6cb831c462f4caf158a3318d63acd2a7af1"), looks := false }, kinds := [], alts := [], laidByText := true, laidKinds := [.data, .listed, .data, .pinned], laidTests := true, laidLooks := .later }
def FnLineEndsCardSaid : Prop := Claim7.holds Tryd.pinned (.plain (OpenSpec.ofChange fnLineEndsSpec)) fnLineEndsCard

/-- THE SECOND FORM's CARD OF 'laws.FnNotByte'. -/
def fnNotByteUptoCard : Claim7 := { stood := { row := fnNotByteUptoRow, standIns := [], harness := (true, "1229cb660be66a9b5a4ef77a5295d6cb831c462f4caf158a3318d63acd2a7af1"), looks := false }, kinds := [], alts := [], laidByText := true, laidKinds := [.data, .pinned], laidTests := true, laidLooks := .later }
def FnNotByteUptoCardSaid : Prop := Claim7.holds Tryd.pinned (.plain (OpenSpec.upto fnNotByteSpec)) fnNotByteUptoCard

/-- THE SECOND FORM's CARD OF 'laws.FnFilterMade'. -/
def fnFilterMadeUptoCard : Claim7 := { stood := { row := fnFilterMadeUptoRow, standIns := [], harness := (true, "1229cb660be66a9b5a4ef77a5295d6cb831c462f4caf158a3318d63acd2a7af1"), looks := false }, kinds := [], alts := [], laidByText := true, laidKinds := [.data, .pinned, .pinned], laidTests := true, laidLooks := .later }
def FnFilterMadeUptoCardSaid : Prop := Claim7.holds Tryd.pinned (.plain (OpenSpec.upto fnFilterMadeSpec)) fnFilterMadeUptoCard

/-- THE SECOND FORM's CARD OF 'laws.FnInsertAhead'. -/
def fnInsertAheadUptoCard : Claim7 := { stood := { row := fnInsertAheadUptoRow, standIns := [], harness := (true, "1229cb660be66a9b5a4ef77a5295d6cb831c462f4caf158a3318d63acd2a7af1"), looks := false }, kinds := [], alts := [], laidByText := true, laidKinds := [.data, .listed, .data, .pinned], laidTests := true, laidLooks := .later }
def FnInsertAheadUptoCardSaid : Prop := Claim7.holds Tryd.pinned (.plain (OpenSpec.upto fnInsertAheadSpec)) fnInsertAheadUptoCard

/-- THE SECOND FORM's CARD OF 'laws.FnLineJoined'. -/
def fnLineJoinedUptoCard : Claim7 := { stood := { row := fnLineJoinedUptoRow, standIns := [], harness := (true, "1229cb660be66a9b5a4ef77a5295d6cb831c462f4caf158a3318d63acd2a7af1"), looks := false }, kinds := [], alts := [], laidByText := true, laidKinds := [.data, .listed, .data, .pinned], laidTests := true, laidLooks := .later }
def FnLineJoinedUptoCardSaid : Prop := Claim7.holds Tryd.pinned (.plain (OpenSpec.upto fnLineJoinedSpec)) fnLineJoinedUptoCard

/-- THE SECOND FORM's CARD OF 'laws.FnOverwrite'. -/
def fnOverwriteUptoCard : Claim7 := { stood := { row := fnOverwriteUptoRow, standIns := [], harness := (true, "1229cb660be66a9b5a4ef77a5295d6cb831c462f4caf158a3318d63acd2a7af1"), looks := false }, kinds := [], alts := [], laidByText := true, laidKinds := [.data, .listed, .data, .pinned], laidTests := true, laidLooks := .later }
def FnOverwriteUptoCardSaid : Prop := Claim7.holds Tryd.pinned (.plain (OpenSpec.upto fnOverwriteSpec)) fnOverwriteUptoCard

/-- THE SECOND FORM's CARD OF 'laws.FnStepsOne'. -/
def fnStepsOneUptoCard : Claim7 := { stood := { row := fnStepsOneUptoRow, standIns := [], harness := (true, "1229cb660be66a9b5a4ef77a5295d6cb831c462f4caf158a3318d63acd2a7af1"), looks := false }, kinds := [], alts := [], laidByText := true, laidKinds := [.data, .listed, .data, .pinned], laidTests := true, laidLooks := .later }
def FnStepsOneUptoCardSaid : Prop := Claim7.holds Tryd.pinned (.plain (OpenSpec.upto fnStepsOneSpec)) fnStepsOneUptoCard

/-- THE SECOND FORM's CARD OF 'laws.FnLineEnds'. -/
def fnLineEndsUptoCard : Claim7 := { stood := { row := fnLineEndsUptoRow, standIns := [], harness := (true, "1229cb660be66a9b5a4ef77a5295d6cb831c462f4caf158a3318d63acd2a7af1"), looks := false }, kinds := [], alts := [], laidByText := true, laidKinds := [.data, .listed, .data, .pinned], laidTests := true, laidLooks := .later }
def FnLineEndsUptoCardSaid : Prop := Claim7.holds Tryd.pinned (.plain (OpenSpec.upto fnLineEndsSpec)) fnLineEndsUptoCard
end Rows
end Go.Proofs.YtleamondilmojaaDoor
