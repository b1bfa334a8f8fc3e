/-
  DERIVED. GIVEN WITH THE SEED: THE CARDS: each row of YtpkmamdgpjncoaaDoorRows.lean that lists a variable, with what it lists TIED to the program's text (the seventh form; the later family's looks); each row that meets fmt, with fmt's text TOLD by the authors' own Lean function (tested against real Go, not proved from fmt's source: count such statements apart). THE CARD IS WHAT COUNTS. Prove the row's statement (the work); the ties are given (YtpkmamdgpjncoaaDoorTie.lean); close each card by the builder's one call (the guide's Derived/Test/ToyasCard.lean, 'card_holds'). Laid BY PROGRAM, IN A SANDBOX (cutbox-door.mjs). By AI agents, Wed Nov 11 2026. No macro, syntax, notation, axiom, sorry.
-/
import Derived.Test.YtpkmamdgpjncoaaDoorRows
import GoSem.ClaimSeven
namespace Go.Proofs.YtpkmamdgpjncoaaDoor
namespace Rows

/-- THE TIED CARD OF 'laws.FnPaddedBy'. -/
def fnPaddedByCard : Claim7 := { stood := { row := fnPaddedByRow, standIns := [], harness := (true, "e9751b1c35ea95035d8b1dd3662d170d25939524bfcb3787c35ce0c9b4e1a757"), looks := false }, kinds := [], alts := [], laidByText := true, laidKinds := [.sentinel, .sentinel], laidTests := true, laidLooks := .later }
def FnPaddedByCardSaid : Prop := Claim7.holds Tryd.pinned (.plain (OpenSpec.ofChange fnPaddedBySpec)) fnPaddedByCard

/-- THE TIED CARD OF 'laws.FnAnsiWritten'. -/
def fnAnsiWrittenCard : Claim7 := { stood := { row := fnAnsiWrittenRow, standIns := [], harness := (true, "e9751b1c35ea95035d8b1dd3662d170d25939524bfcb3787c35ce0c9b4e1a757"), looks := false }, kinds := [], alts := [], laidByText := true, laidKinds := [.sentinel, .sentinel], laidTests := true, laidLooks := .later }
def FnAnsiWrittenCardSaid : Prop := Claim7.holds Tryd.pinned (.plain (OpenSpec.ofChange fnAnsiWrittenSpec)) fnAnsiWrittenCard

/-- THE TIED CARD OF 'laws.FnTruncated'. -/
def fnTruncatedCard : Claim7 := { stood := { row := fnTruncatedRow, standIns := [], harness := (true, "e9751b1c35ea95035d8b1dd3662d170d25939524bfcb3787c35ce0c9b4e1a757"), looks := false }, kinds := [], alts := [], laidByText := true, laidKinds := [.sentinel, .sentinel], laidTests := true, laidLooks := .later }
def FnTruncatedCardSaid : Prop := Claim7.holds Tryd.pinned (.plain (OpenSpec.ofChange fnTruncatedSpec)) fnTruncatedCard

/-- THE TIED CARD OF 'laws.FnPaddedAgain'. -/
def fnPaddedAgainCard : Claim7 := { stood := { row := fnPaddedAgainRow, standIns := [], harness := (true, "e9751b1c35ea95035d8b1dd3662d170d25939524bfcb3787c35ce0c9b4e1a757"), looks := false }, kinds := [], alts := [], laidByText := true, laidKinds := [.sentinel, .sentinel], laidTests := true, laidLooks := .later }
def FnPaddedAgainCardSaid : Prop := Claim7.holds Tryd.pinned (.plain (OpenSpec.ofChange fnPaddedAgainSpec)) fnPaddedAgainCard

/-- THE TIED CARD OF 'laws.FnMargined'. -/
def fnMarginedCard : Claim7 := { stood := { row := fnMarginedRow, standIns := [], harness := (true, "e9751b1c35ea95035d8b1dd3662d170d25939524bfcb3787c35ce0c9b4e1a757"), looks := false }, kinds := [], alts := [], laidByText := true, laidKinds := [.sentinel, .sentinel], laidTests := true, laidLooks := .later }
def FnMarginedCardSaid : Prop := Claim7.holds Tryd.pinned (.plain (OpenSpec.ofChange fnMarginedSpec)) fnMarginedCard

/-- THE SECOND FORM's CARD OF 'laws.FnPaddedBy'. -/
def fnPaddedByUptoCard : Claim7 := { stood := { row := fnPaddedByUptoRow, standIns := [], harness := (true, "e9751b1c35ea95035d8b1dd3662d170d25939524bfcb3787c35ce0c9b4e1a757"), looks := false }, kinds := [], alts := [], laidByText := true, laidKinds := [.sentinel, .sentinel], laidTests := true, laidLooks := .later }
def FnPaddedByUptoCardSaid : Prop := Claim7.holds Tryd.pinned (.plain (OpenSpec.upto fnPaddedBySpec)) fnPaddedByUptoCard

/-- THE SECOND FORM's CARD OF 'laws.FnAnsiWritten'. -/
def fnAnsiWrittenUptoCard : Claim7 := { stood := { row := fnAnsiWrittenUptoRow, standIns := [], harness := (true, "e9751b1c35ea95035d8b1dd3662d170d25939524bfcb3787c35ce0c9b4e1a757"), looks := false }, kinds := [], alts := [], laidByText := true, laidKinds := [.sentinel, .sentinel], laidTests := true, laidLooks := .later }
def FnAnsiWrittenUptoCardSaid : Prop := Claim7.holds Tryd.pinned (.plain (OpenSpec.upto fnAnsiWrittenSpec)) fnAnsiWrittenUptoCard

/-- THE SECOND FORM's CARD OF 'laws.FnTruncated'. -/
def fnTruncatedUptoCard : Claim7 := { stood := { row := fnTruncatedUptoRow, standIns := [], harness := (true, "e9751b1c35ea95035d8b1dd3662d170d25939524bfcb3787c35ce0c9b4e1a757"), looks := false }, kinds := [], alts := [], laidByText := true, laidKinds := [.sentinel, .sentinel], laidTests := true, laidLooks := .later }
def FnTruncatedUptoCardSaid : Prop := Claim7.holds Tryd.pinned (.plain (OpenSpec.upto fnTruncatedSpec)) fnTruncatedUptoCard

/-- THE SECOND FORM's CARD OF 'laws.FnPaddedAgain'. -/
def fnPaddedAgainUptoCard : Claim7 := { stood := { row := fnPaddedAgainUptoRow, standIns := [], harness := (true, "e9751b1c35ea95035d8b1dd3662d170d25939524bfcb3787c35ce0c9b4e1a757"), looks := false }, kinds := [], alts := [], laidByText := true, laidKinds := [.sentinel, .sentinel], laidTests := true, laidLooks := .later }
def FnPaddedAgainUptoCardSaid : Prop := Claim7.holds Tryd.pinned (.plain (OpenSpec.upto fnPaddedAgainSpec)) fnPaddedAgainUptoCard

/-- THE SECOND FORM's CARD OF 'laws.FnMargined'. -/
def fnMarginedUptoCard : Claim7 := { stood := { row := fnMarginedUptoRow, standIns := [], harness := (true, "e9751b1c35ea95035d8b1dd3662d170d25939524bfcb3787c35ce0c9b4e1a757"), looks := false }, kinds := [], alts := [], laidByText := true, laidKinds := [.sentinel, .sentinel], laidTests := true, laidLooks := .later }
def FnMarginedUptoCardSaid : Prop := Claim7.holds Tryd.pinned (.plain (OpenSpec.upto fnMarginedSpec)) fnMarginedUptoCard
end Rows
end Go.Proofs.YtpkmamdgpjncoaaDoor
