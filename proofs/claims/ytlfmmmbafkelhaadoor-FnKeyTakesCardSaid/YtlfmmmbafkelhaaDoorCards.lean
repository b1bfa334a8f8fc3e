/-
  DERIVED. GIVEN WITH THE SEED: THE CARDS: each row of YtlfmmmbafkelhaaDoorRows.lean that lists a variable, with what it lists TIED to the program's text (the seventh form; the later family's looks); each row that meets fmt, with fmt's text TOLD by the authors' own Lean function (tested against real Go, not proved from fmt's source: count such statements apart). THE CARD IS WHAT COUNTS. Prove the row's statement (the work); the ties are given (YtlfmmmbafkelhaaDoorTie.lean); close each card by the builder's one call (the guide's Derived/Test/ToyasCard.lean, 'card_holds'). Laid BY PROGRAM, IN A SANDBOX (cutbox-door.mjs). By AI agents, Wed Nov 11 2026. No macro, syntax, notation, axiom, sorry.
-/
import Derived.Test.YtlfmmmbafkelhaaDoorRows
import GoSem.ClaimSeven
namespace Go.Proofs.YtlfmmmbafkelhaaDoor
namespace Rows

/-- THE TIED CARD OF 'laws.FnDeleteYank'. -/
def fnDeleteYankCard : Claim7 := { stood := { row := fnDeleteYankRow, standIns := [], harness := (true, "8eb4f0d05348d358fa3720c41aaa213801599f41bf9985681793c9c638539ee9"), looks := false }, kinds := [], alts := [], laidByText := true, laidKinds := [.wider], laidTests := true, laidLooks := .later }
def FnDeleteYankCardSaid : Prop := Claim7.holds Tryd.pinned (.plain (OpenSpec.ofChange fnDeleteYankSpec)) fnDeleteYankCard

/-- THE TIED CARD OF 'laws.FnKeyParts'. -/
def fnKeyPartsCard : Claim7 := { stood := { row := fnKeyPartsRow, standIns := [], harness := (true, "8eb4f0d05348d358fa3720c41aaa213801599f41bf9985681793c9c638539ee9"), looks := false }, kinds := [], alts := [], laidByText := true, laidKinds := [.wider], laidTests := true, laidLooks := .later }
def FnKeyPartsCardSaid : Prop := Claim7.holds Tryd.pinned (.plain (OpenSpec.ofChange fnKeyPartsSpec)) fnKeyPartsCard

/-- THE TIED CARD OF 'laws.FnKillHalves'. -/
def fnKillHalvesCard : Claim7 := { stood := { row := fnKillHalvesRow, standIns := [], harness := (true, "8eb4f0d05348d358fa3720c41aaa213801599f41bf9985681793c9c638539ee9"), looks := false }, kinds := [], alts := [], laidByText := true, laidKinds := [.wider], laidTests := true, laidLooks := .later }
def FnKillHalvesCardSaid : Prop := Claim7.holds Tryd.pinned (.plain (OpenSpec.ofChange fnKillHalvesSpec)) fnKillHalvesCard

/-- THE TIED CARD OF 'laws.FnKillYank'. -/
def fnKillYankCard : Claim7 := { stood := { row := fnKillYankRow, standIns := [], harness := (true, "8eb4f0d05348d358fa3720c41aaa213801599f41bf9985681793c9c638539ee9"), looks := false }, kinds := [], alts := [], laidByText := true, laidKinds := [.wider], laidTests := true, laidLooks := .later }
def FnKillYankCardSaid : Prop := Claim7.holds Tryd.pinned (.plain (OpenSpec.ofChange fnKillYankSpec)) fnKillYankCard

/-- THE TIED CARD OF 'laws.FnTransposeTwice'. -/
def fnTransposeTwiceCard : Claim7 := { stood := { row := fnTransposeTwiceRow, standIns := [], harness := (true, "8eb4f0d05348d358fa3720c41aaa213801599f41bf9985681793c9c638539ee9"), looks := false }, kinds := [], alts := [], laidByText := true, laidKinds := [.wider], laidTests := true, laidLooks := .later }
def FnTransposeTwiceCardSaid : Prop := Claim7.holds Tryd.pinned (.plain (OpenSpec.ofChange fnTransposeTwiceSpec)) fnTransposeTwiceCard

/-- THE TIED CARD OF 'laws.FnKeyMoves'. -/
def fnKeyMovesCard : Claim7 := { stood := { row := fnKeyMovesRow, standIns := [], harness := (true, "8eb4f0d05348d358fa3720c41aaa213801599f41bf9985681793c9c638539ee9"), looks := false }, kinds := [], alts := [], laidByText := true, laidKinds := [.wider], laidTests := true, laidLooks := .later }
def FnKeyMovesCardSaid : Prop := Claim7.holds Tryd.pinned (.plain (OpenSpec.ofChange fnKeyMovesSpec)) fnKeyMovesCard

/-- THE TIED CARD OF 'laws.FnKeyTakes'. -/
def fnKeyTakesCard : Claim7 := { stood := { row := fnKeyTakesRow, standIns := [], harness := (true, "8eb4f0d05348d358fa3720c41aaa213801599f41bf9985681793c9c638539ee9"), looks := false }, kinds := [], alts := [], laidByText := true, laidKinds := [.wider], laidTests := true, laidLooks := .later }
def FnKeyTakesCardSaid : Prop := Claim7.holds Tryd.pinned (.plain (OpenSpec.ofChange fnKeyTakesSpec)) fnKeyTakesCard

/-- THE TIED CARD OF 'laws.FnRowsOf'. -/
def fnRowsOfCard : Claim7 := { stood := { row := fnRowsOfRow, standIns := [], harness := (true, "8eb4f0d05348d358fa3720c41aaa213801599f41bf9985681793c9c638539ee9"), looks := false }, kinds := [], alts := [], laidByText := true, laidKinds := [.sentinel, .wider], laidTests := true, laidLooks := .later }
def FnRowsOfCardSaid : Prop := Claim7.holds Tryd.pinned (.plain (OpenSpec.ofChange fnRowsOfSpec)) fnRowsOfCard

/-- THE TIED CARD OF 'laws.FnShownLine'. -/
def fnShownLineCard : Claim7 := { stood := { row := fnShownLineRow, standIns := [], harness := (true, "8eb4f0d05348d358fa3720c41aaa213801599f41bf9985681793c9c638539ee9"), looks := false }, kinds := [], alts := [], laidByText := true, laidKinds := [.data, .data, .data, .sentinel, .wider], laidTests := true, laidLooks := .later }
def FnShownLineCardSaid : Prop := Claim7.holds Tryd.pinned (.plain (OpenSpec.ofChange fnShownLineSpec)) fnShownLineCard

/-- THE SECOND FORM's CARD OF 'laws.FnDeleteYank'. -/
def fnDeleteYankUptoCard : Claim7 := { stood := { row := fnDeleteYankUptoRow, standIns := [], harness := (true, "8eb4f0d05348d358fa3720c41aaa213801599f41bf9985681793c9c638539ee9"), looks := false }, kinds := [], alts := [], laidByText := true, laidKinds := [.wider], laidTests := true, laidLooks := .later }
def FnDeleteYankUptoCardSaid : Prop := Claim7.holds Tryd.pinned (.plain (OpenSpec.upto fnDeleteYankSpec)) fnDeleteYankUptoCard

/-- THE SECOND FORM's CARD OF 'laws.FnKeyParts'. -/
def fnKeyPartsUptoCard : Claim7 := { stood := { row := fnKeyPartsUptoRow, standIns := [], harness := (true, "8eb4f0d05348d358fa3720c41aaa213801599f41bf9985681793c9c638539ee9"), looks := false }, kinds := [], alts := [], laidByText := true, laidKinds := [.wider], laidTests := true, laidLooks := .later }
def FnKeyPartsUptoCardSaid : Prop := Claim7.holds Tryd.pinned (.plain (OpenSpec.upto fnKeyPartsSpec)) fnKeyPartsUptoCard

/-- THE SECOND FORM's CARD OF 'laws.FnKillHalves'. -/
def fnKillHalvesUptoCard : Claim7 := { stood := { row := fnKillHalvesUptoRow, standIns := [], harness := (true, "8eb4f0d05348d358fa3720c41aaa213801599f41bf9985681793c9c638539ee9"), looks := false }, kinds := [], alts := [], laidByText := true, laidKinds := [.wider], laidTests := true, laidLooks := .later }
def FnKillHalvesUptoCardSaid : Prop := Claim7.holds Tryd.pinned (.plain (OpenSpec.upto fnKillHalvesSpec)) fnKillHalvesUptoCard

/-- THE SECOND FORM's CARD OF 'laws.FnKillYank'. -/
def fnKillYankUptoCard : Claim7 := { stood := { row := fnKillYankUptoRow, standIns := [], harness := (true, "8eb4f0d05348d358fa3720c41aaa213801599f41bf9985681793c9c638539ee9"), looks := false }, kinds := [], alts := [], laidByText := true, laidKinds := [.wider], laidTests := true, laidLooks := .later }
def FnKillYankUptoCardSaid : Prop := Claim7.holds Tryd.pinned (.plain (OpenSpec.upto fnKillYankSpec)) fnKillYankUptoCard

/-- THE SECOND FORM's CARD OF 'laws.FnTransposeTwice'. -/
def fnTransposeTwiceUptoCard : Claim7 := { stood := { row := fnTransposeTwiceUptoRow, standIns := [], harness := (true, "8eb4f0d05348d358fa3720c41aaa213801599f41bf9985681793c9c638539ee9"), looks := false }, kinds := [], alts := [], laidByText := true, laidKinds := [.wider], laidTests := true, laidLooks := .later }
def FnTransposeTwiceUptoCardSaid : Prop := Claim7.holds Tryd.pinned (.plain (OpenSpec.upto fnTransposeTwiceSpec)) fnTransposeTwiceUptoCard

/-- THE SECOND FORM's CARD OF 'laws.FnKeyMoves'. -/
def fnKeyMovesUptoCard : Claim7 := { stood := { row := fnKeyMovesUptoRow, standIns := [], harness := (true, "8eb4f0d05348d358fa3720c41aaa213801599f41bf9985681793c9c638539ee9"), looks := false }, kinds := [], alts := [], laidByText := true, laidKinds := [.wider], laidTests := true, laidLooks := .later }
def FnKeyMovesUptoCardSaid : Prop := Claim7.holds Tryd.pinned (.plain (OpenSpec.upto fnKeyMovesSpec)) fnKeyMovesUptoCard

/-- THE SECOND FORM's CARD OF 'laws.FnKeyTakes'. -/
def fnKeyTakesUptoCard : Claim7 := { stood := { row := fnKeyTakesUptoRow, standIns := [], harness := (true, "8eb4f0d05348d358fa3720c41aaa213801599f41bf9985681793c9c638539ee9"), looks := false }, kinds := [], alts := [], laidByText := true, laidKinds := [.wider], laidTests := true, laidLooks := .later }
def FnKeyTakesUptoCardSaid : Prop := Claim7.holds Tryd.pinned (.plain (OpenSpec.upto fnKeyTakesSpec)) fnKeyTakesUptoCard

/-- THE SECOND FORM's CARD OF 'laws.FnRowsOf'. -/
def fnRowsOfUptoCard : Claim7 := { stood := { row := fnRowsOfUptoRow, standIns := [], harness := (true, "8eb4f0d05348d358fa3720c41aaa213801599f41bf9985681793c9c638539ee9"), looks := false }, kinds := [], alts := [], laidByText := true, laidKinds := [.sentinel, .wider], laidTests := true, laidLooks := .later }
def FnRowsOfUptoCardSaid : Prop := Claim7.holds Tryd.pinned (.plain (OpenSpec.upto fnRowsOfSpec)) fnRowsOfUptoCard

/-- THE SECOND FORM's CARD OF 'laws.FnShownLine'. -/
def fnShownLineUptoCard : Claim7 := { stood := { row := fnShownLineUptoRow, standIns := [], harness := (true, "8eb4f0d05348d358fa3720c41aaa213801599f41bf9985681793c9c638539ee9"), looks := false }, kinds := [], alts := [], laidByText := true, laidKinds := [.data, .data, .data, .sentinel, .wider], laidTests := true, laidLooks := .later }
def FnShownLineUptoCardSaid : Prop := Claim7.holds Tryd.pinned (.plain (OpenSpec.upto fnShownLineSpec)) fnShownLineUptoCard
end Rows
end Go.Proofs.YtlfmmmbafkelhaaDoor
