/-
  DERIVED. GIVEN WITH THE SEED: THE CARDS: each row of YtbkdppfjmfepiaaDoorRows.lean that lists a variable, with what it lists TIED to the program's text (the seventh form; the later family's looks); each row that meets fmt, with fmt's text TOLD by the authors' own Lean function (tested against real Go, not proved from fmt's source: count such statements apart). THE CARD IS WHAT COUNTS. Prove the row's statement (the work); the ties are given (YtbkdppfjmfepiaaDoorTie.lean); close each card by the builder's one call (the guide's Derived/Test/ToyasCard.lean, 'card_holds'). Laid BY PROGRAM, IN A SANDBOX (cutbox-door.mjs). By AI agents, Wed Nov 11 2026. No macro, syntax, notation, axiom, sorry.
-/
import Derived.Test.YtbkdppfjmfepiaaDoorRows
import GoSem.ClaimSeven
namespace Go.Proofs.YtbkdppfjmfepiaaDoor
namespace Rows

/-- THE TIED CARD OF 'laws.FnWordsUntil'. -/
def fnWordsUntilCard : Claim7 := { stood := { row := fnWordsUntilRow, standIns := [], harness := (true, "799828043837222332b792da3bb2051f641c4d6b29517e9d887dfcfa596d4aff"), looks := false }, kinds := [], alts := [], laidByText := true, laidKinds := [.data, .pinned], laidTests := true, laidLooks := .later }
def FnWordsUntilCardSaid : Prop := Claim7.holds Tryd.pinned (.plain (OpenSpec.ofChange fnWordsUntilSpec)) fnWordsUntilCard

/-- THE TIED CARD OF 'laws.FnWrote'. -/
def fnWroteCard : Claim7 := { stood := { row := fnWroteRow, standIns := [], harness := (true, "799828043837222332b792da3bb2051f641c4d6b29517e9d887dfcfa596d4aff"), looks := false }, kinds := [], alts := [], laidByText := true, laidKinds := [.data, .data, .data, .mapped], laidTests := true, laidLooks := .later }
def FnWroteCardSaid : Prop := Claim7.holds Tryd.pinned (.plain (OpenSpec.ofChange fnWroteSpec)) fnWroteCard

/-- THE TIED CARD OF 'laws.FnWordsBlank'. -/
def fnWordsBlankCard : Claim7 := { stood := { row := fnWordsBlankRow, standIns := [], harness := (true, "799828043837222332b792da3bb2051f641c4d6b29517e9d887dfcfa596d4aff"), looks := false }, kinds := [], alts := [], laidByText := true, laidKinds := [.data, .pinned], laidTests := true, laidLooks := .later }
def FnWordsBlankCardSaid : Prop := Claim7.holds Tryd.pinned (.plain (OpenSpec.ofChange fnWordsBlankSpec)) fnWordsBlankCard

/-- THE SECOND FORM's CARD OF 'laws.FnWordsUntil'. -/
def fnWordsUntilUptoCard : Claim7 := { stood := { row := fnWordsUntilUptoRow, standIns := [], harness := (true, "799828043837222332b792da3bb2051f641c4d6b29517e9d887dfcfa596d4aff"), looks := false }, kinds := [], alts := [], laidByText := true, laidKinds := [.data, .pinned], laidTests := true, laidLooks := .later }
def FnWordsUntilUptoCardSaid : Prop := Claim7.holds Tryd.pinned (.plain (OpenSpec.upto fnWordsUntilSpec)) fnWordsUntilUptoCard

/-- THE SECOND FORM's CARD OF 'laws.FnWrote'. -/
def fnWroteUptoCard : Claim7 := { stood := { row := fnWroteUptoRow, standIns := [], harness := (true, "799828043837222332b792da3bb2051f641c4d6b29517e9d887dfcfa596d4aff"), looks := false }, kinds := [], alts := [], laidByText := true, laidKinds := [.data, .data, .data, .mapped], laidTests := true, laidLooks := .later }
def FnWroteUptoCardSaid : Prop := Claim7.holds Tryd.pinned (.plain (OpenSpec.upto fnWroteSpec)) fnWroteUptoCard

/-- THE SECOND FORM's CARD OF 'laws.FnWordsBlank'. -/
def fnWordsBlankUptoCard : Claim7 := { stood := { row := fnWordsBlankUptoRow, standIns := [], harness := (true, "799828043837222332b792da3bb2051f641c4d6b29517e9d887dfcfa596d4aff"), looks := false }, kinds := [], alts := [], laidByText := true, laidKinds := [.data, .pinned], laidTests := true, laidLooks := .later }
def FnWordsBlankUptoCardSaid : Prop := Claim7.holds Tryd.pinned (.plain (OpenSpec.upto fnWordsBlankSpec)) fnWordsBlankUptoCard
end Rows
end Go.Proofs.YtbkdppfjmfepiaaDoor
