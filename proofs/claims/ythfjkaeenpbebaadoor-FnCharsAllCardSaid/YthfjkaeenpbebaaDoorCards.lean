/-
  DERIVED. GIVEN WITH THE SEED: THE CARDS: each row of YthfjkaeenpbebaaDoorRows.lean that lists a variable, with what it lists TIED to the program's text (the seventh form; the later family's looks); each row that meets fmt, with fmt's text TOLD by the authors' own Lean function (tested against real Go, not proved from fmt's source: count such statements apart). THE CARD IS WHAT COUNTS. Prove the row's statement (the work); the ties are given (YthfjkaeenpbebaaDoorTie.lean); close each card by the builder's one call (the guide's Derived/Test/ToyasCard.lean, 'card_holds'). Laid BY PROGRAM, IN A SANDBOX (cutbox-door.mjs). By AI agents, Wed Nov 11 2026. No macro, syntax, notation, axiom, sorry.
-/
import Derived.Test.YthfjkaeenpbebaaDoorRows
import GoSem.ClaimSeven
namespace Go.Proofs.YthfjkaeenpbebaaDoor
namespace Rows

/-- THE TIED CARD OF 'laws.FnCharsAll'. -/
def fnCharsAllCard : Claim7 := { stood := { row := fnCharsAllRow, standIns := [], harness := (true, "1989baad2603f7a776f28c463cd11c77fca07c36e7116fb065ef309be0e41257"), looks := true }, kinds := [], alts := [], laidByText := true, laidKinds := [.data, .pinned], laidTests := true, laidLooks := .later }
def FnCharsAllCardSaid : Prop := Claim7.holds Tryd.pinned (.plain (OpenSpec.ofChange fnCharsAllSpec)) fnCharsAllCard

/-- THE TIED CARD OF 'laws.FnTrimLeft'. -/
def fnTrimLeftCard : Claim7 := { stood := { row := fnTrimLeftRow, standIns := [], harness := (true, "1989baad2603f7a776f28c463cd11c77fca07c36e7116fb065ef309be0e41257"), looks := true }, kinds := [], alts := [], laidByText := true, laidKinds := [.listed], laidTests := true, laidLooks := .later }
def FnTrimLeftCardSaid : Prop := Claim7.holds Tryd.pinned (.plain (OpenSpec.ofChange fnTrimLeftSpec)) fnTrimLeftCard

/-- THE TIED CARD OF 'laws.FnNotByte'. -/
def fnNotByteCard : Claim7 := { stood := { row := fnNotByteRow, standIns := [], harness := (true, "1989baad2603f7a776f28c463cd11c77fca07c36e7116fb065ef309be0e41257"), looks := true }, kinds := [], alts := [], laidByText := true, laidKinds := [.data, .pinned], laidTests := true, laidLooks := .later }
def FnNotByteCardSaid : Prop := Claim7.holds Tryd.pinned (.plain (OpenSpec.ofChange fnNotByteSpec)) fnNotByteCard

/-- THE TIED CARD OF 'laws.FnNumberOf'. -/
def fnNumberOfCard : Claim7 := { stood := { row := fnNumberOfRow, standIns := [], harness := (true, "1989baad2603f7a776f28c463cd11c77fca07c36e7116fb065ef309be0e41257"), looks := true }, kinds := [], alts := [], laidByText := true, laidKinds := [.data, .data, .data, .sentinel, .sentinel], laidTests := true, laidLooks := .later }
def FnNumberOfCardSaid : Prop := Claim7.holds Tryd.pinned (.plain (OpenSpec.ofChange fnNumberOfSpec)) fnNumberOfCard

/-- THE TIED CARD OF 'laws.FnEscapeTwo'. -/
def fnEscapeTwoCard : Claim7 := { stood := { row := fnEscapeTwoRow, standIns := [], harness := (true, "1989baad2603f7a776f28c463cd11c77fca07c36e7116fb065ef309be0e41257"), looks := true }, kinds := [], alts := [], laidByText := true, laidKinds := [.data, .data, .data, .sentinel, .sentinel], laidTests := true, laidLooks := .later }
def FnEscapeTwoCardSaid : Prop := Claim7.holds Tryd.pinned (.plain (OpenSpec.ofChange fnEscapeTwoSpec)) fnEscapeTwoCard

/-- THE TIED CARD OF 'laws.FnFilterMade'. -/
def fnFilterMadeCard : Claim7 := { stood := { row := fnFilterMadeRow, standIns := [], harness := (true, "1989baad2603f7a776f28c463cd11c77fca07c36e7116fb065ef309be0e41257"), looks := true }, kinds := [], alts := [], laidByText := true, laidKinds := [.data, .pinned, .pinned], laidTests := true, laidLooks := .later }
def FnFilterMadeCardSaid : Prop := Claim7.holds Tryd.pinned (.plain (OpenSpec.ofChange fnFilterMadeSpec)) fnFilterMadeCard

/-- THE SECOND FORM's CARD OF 'laws.FnCharsAll'. -/
def fnCharsAllUptoCard : Claim7 := { stood := { row := fnCharsAllUptoRow, standIns := [], harness := (true, "1989baad2603f7a776f28c463cd11c77fca07c36e7116fb065ef309be0e41257"), looks := true }, kinds := [], alts := [], laidByText := true, laidKinds := [.data, .pinned], laidTests := true, laidLooks := .later }
def FnCharsAllUptoCardSaid : Prop := Claim7.holds Tryd.pinned (.plain (OpenSpec.upto fnCharsAllSpec)) fnCharsAllUptoCard

/-- THE SECOND FORM's CARD OF 'laws.FnTrimLeft'. -/
def fnTrimLeftUptoCard : Claim7 := { stood := { row := fnTrimLeftUptoRow, standIns := [], harness := (true, "1989baad2603f7a776f28c463cd11c77fca07c36e7116fb065ef309be0e41257"), looks := true }, kinds := [], alts := [], laidByText := true, laidKinds := [.listed], laidTests := true, laidLooks := .later }
def FnTrimLeftUptoCardSaid : Prop := Claim7.holds Tryd.pinned (.plain (OpenSpec.upto fnTrimLeftSpec)) fnTrimLeftUptoCard

/-- THE SECOND FORM's CARD OF 'laws.FnNotByte'. -/
def fnNotByteUptoCard : Claim7 := { stood := { row := fnNotByteUptoRow, standIns := [], harness := (true, "1989baad2603f7a776f28c463cd11c77fca07c36e7116fb065ef309be0e41257"), looks := true }, kinds := [], alts := [], laidByText := true, laidKinds := [.data, .pinned], laidTests := true, laidLooks := .later }
def FnNotByteUptoCardSaid : Prop := Claim7.holds Tryd.pinned (.plain (OpenSpec.upto fnNotByteSpec)) fnNotByteUptoCard

/-- THE SECOND FORM's CARD OF 'laws.FnNumberOf'. -/
def fnNumberOfUptoCard : Claim7 := { stood := { row := fnNumberOfUptoRow, standIns := [], harness := (true, "1989baad2603f7a776f28c463cd11c77fca07c36e7116fb065ef309be0e41257"), looks := true }, kinds := [], alts := [], laidByText := true, laidKinds := [.data, .data, .data, .sentinel, .sentinel], laidTests := true, laidLooks := .later }
def FnNumberOfUptoCardSaid : Prop := Claim7.holds Tryd.pinned (.plain (OpenSpec.upto fnNumberOfSpec)) fnNumberOfUptoCard

/-- THE SECOND FORM's CARD OF 'laws.FnEscapeTwo'. -/
def fnEscapeTwoUptoCard : Claim7 := { stood := { row := fnEscapeTwoUptoRow, standIns := [], harness := (true, "1989baad2603f7a776f28c463cd11c77fca07c36e7116fb065ef309be0e41257"), looks := true }, kinds := [], alts := [], laidByText := true, laidKinds := [.data, .data, .data, .sentinel, .sentinel], laidTests := true, laidLooks := .later }
def FnEscapeTwoUptoCardSaid : Prop := Claim7.holds Tryd.pinned (.plain (OpenSpec.upto fnEscapeTwoSpec)) fnEscapeTwoUptoCard

/-- THE SECOND FORM's CARD OF 'laws.FnFilterMade'. -/
def fnFilterMadeUptoCard : Claim7 := { stood := { row := fnFilterMadeUptoRow, standIns := [], harness := (true, "1989baad2603f7a776f28c463cd11c77fca07c36e7116fb065ef309be0e41257"), looks := true }, kinds := [], alts := [], laidByText := true, laidKinds := [.data, .pinned, .pinned], laidTests := true, laidLooks := .later }
def FnFilterMadeUptoCardSaid : Prop := Claim7.holds Tryd.pinned (.plain (OpenSpec.upto fnFilterMadeSpec)) fnFilterMadeUptoCard
end Rows
end Go.Proofs.YthfjkaeenpbebaaDoor
