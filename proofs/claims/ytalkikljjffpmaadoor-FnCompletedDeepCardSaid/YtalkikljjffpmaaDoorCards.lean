/-
  DERIVED. GIVEN WITH THE SEED: THE CARDS: each row of YtalkikljjffpmaaDoorRows.lean that lists a variable, with what it lists TIED to the program's text (the seventh form; the later family's looks); each row that meets fmt, with fmt's text TOLD by the authors' own Lean function (tested against real Go, not proved from fmt's source: count such statements apart). THE CARD IS WHAT COUNTS. Prove the row's statement (the work); the ties are given (YtalkikljjffpmaaDoorTie.lean); close each card by the builder's one call (the guide's Derived/Test/ToyasCard.lean, 'card_holds'). Laid BY PROGRAM, IN A SANDBOX (cutbox-door.mjs). By AI agents, Wed Nov 11 2026. No macro, syntax, notation, axiom, sorry.
-/
import Derived.Test.YtalkikljjffpmaaDoorRows
import GoSem.ClaimSeven
namespace Go.Proofs.YtalkikljjffpmaaDoor
namespace Rows

/-- THE TIED CARD OF 'laws.FnSegmented'. -/
def fnSegmentedCard : Claim7 := { stood := { row := fnSegmentedRow, standIns := [], harness := (true, "0fc3721be34a7eb97639c69f70a2ff24bcab03474ced235a6f2c60eb581b8432"), looks := true }, kinds := [], alts := [], laidByText := true, laidKinds := [.wider], laidTests := true, laidLooks := .later }
def FnSegmentedCardSaid : Prop := Claim7.holds Tryd.pinned (.plain (OpenSpec.ofChange fnSegmentedSpec)) fnSegmentedCard

/-- THE TIED CARD OF 'laws.FnCompletedDeep'. -/
def fnCompletedDeepCard : Claim7 := { stood := { row := fnCompletedDeepRow, standIns := [], harness := (true, "0fc3721be34a7eb97639c69f70a2ff24bcab03474ced235a6f2c60eb581b8432"), looks := true }, kinds := [], alts := [], laidByText := true, laidKinds := [.listed, .wider], laidTests := true, laidLooks := .later }
def FnCompletedDeepCardSaid : Prop := Claim7.holds Tryd.pinned (.plain (OpenSpec.ofChange fnCompletedDeepSpec)) fnCompletedDeepCard

/-- THE TIED CARD OF 'laws.FnPasts'. -/
def fnPastsCard : Claim7 := { stood := { row := fnPastsRow, standIns := [], harness := (true, "0fc3721be34a7eb97639c69f70a2ff24bcab03474ced235a6f2c60eb581b8432"), looks := true }, kinds := [], alts := [], laidByText := true, laidKinds := [.wider], laidTests := true, laidLooks := .later }
def FnPastsCardSaid : Prop := Claim7.holds Tryd.pinned (.plain (OpenSpec.ofChange fnPastsSpec)) fnPastsCard

/-- THE TIED CARD OF 'laws.FnWrote'. -/
def fnWroteCard : Claim7 := { stood := { row := fnWroteRow, standIns := [], harness := (true, "0fc3721be34a7eb97639c69f70a2ff24bcab03474ced235a6f2c60eb581b8432"), looks := true }, kinds := [], alts := [], laidByText := true, laidKinds := [.data, .data, .data, .mapped], laidTests := true, laidLooks := .later }
def FnWroteCardSaid : Prop := Claim7.holds Tryd.pinned (.plain (OpenSpec.ofChange fnWroteSpec)) fnWroteCard

/-- THE SECOND FORM's CARD OF 'laws.FnSegmented'. -/
def fnSegmentedUptoCard : Claim7 := { stood := { row := fnSegmentedUptoRow, standIns := [], harness := (true, "0fc3721be34a7eb97639c69f70a2ff24bcab03474ced235a6f2c60eb581b8432"), looks := true }, kinds := [], alts := [], laidByText := true, laidKinds := [.wider], laidTests := true, laidLooks := .later }
def FnSegmentedUptoCardSaid : Prop := Claim7.holds Tryd.pinned (.plain (OpenSpec.upto fnSegmentedSpec)) fnSegmentedUptoCard

/-- THE SECOND FORM's CARD OF 'laws.FnCompletedDeep'. -/
def fnCompletedDeepUptoCard : Claim7 := { stood := { row := fnCompletedDeepUptoRow, standIns := [], harness := (true, "0fc3721be34a7eb97639c69f70a2ff24bcab03474ced235a6f2c60eb581b8432"), looks := true }, kinds := [], alts := [], laidByText := true, laidKinds := [.listed, .wider], laidTests := true, laidLooks := .later }
def FnCompletedDeepUptoCardSaid : Prop := Claim7.holds Tryd.pinned (.plain (OpenSpec.upto fnCompletedDeepSpec)) fnCompletedDeepUptoCard

/-- THE SECOND FORM's CARD OF 'laws.FnPasts'. -/
def fnPastsUptoCard : Claim7 := { stood := { row := fnPastsUptoRow, standIns := [], harness := (true, "0fc3721be34a7eb97639c69f70a2ff24bcab03474ced235a6f2c60eb581b8432"), looks := true }, kinds := [], alts := [], laidByText := true, laidKinds := [.wider], laidTests := true, laidLooks := .later }
def FnPastsUptoCardSaid : Prop := Claim7.holds Tryd.pinned (.plain (OpenSpec.upto fnPastsSpec)) fnPastsUptoCard

/-- THE SECOND FORM's CARD OF 'laws.FnWrote'. -/
def fnWroteUptoCard : Claim7 := { stood := { row := fnWroteUptoRow, standIns := [], harness := (true, "0fc3721be34a7eb97639c69f70a2ff24bcab03474ced235a6f2c60eb581b8432"), looks := true }, kinds := [], alts := [], laidByText := true, laidKinds := [.data, .data, .data, .mapped], laidTests := true, laidLooks := .later }
def FnWroteUptoCardSaid : Prop := Claim7.holds Tryd.pinned (.plain (OpenSpec.upto fnWroteSpec)) fnWroteUptoCard
end Rows
end Go.Proofs.YtalkikljjffpmaaDoor
