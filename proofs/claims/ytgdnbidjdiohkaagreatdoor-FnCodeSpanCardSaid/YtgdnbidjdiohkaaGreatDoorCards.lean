/-
  DERIVED. GIVEN WITH THE SEED: THE CARDS: each row of YtgdnbidjdiohkaaGreatDoorRows.lean that lists a variable, with what it lists TIED to the program's text (the seventh form; the later family's looks); each row that meets fmt, with fmt's text TOLD by the authors' own Lean function (tested against real Go, not proved from fmt's source: count such statements apart). THE CARD IS WHAT COUNTS. Prove the row's statement (the work); the ties are given (YtgdnbidjdiohkaaGreatDoorTie.lean); close each card by the builder's one call (the guide's Derived/Test/ToyasCard.lean, 'card_holds'). Laid BY PROGRAM, IN A SANDBOX (cutbox-door.mjs). By AI agents, Wed Nov 11 2026. No macro, syntax, notation, axiom, sorry.
-/
import Derived.Test.YtgdnbidjdiohkaaGreatDoorRows
import GoSem.ClaimSeven
namespace Go.Proofs.YtgdnbidjdiohkaaGreatDoor
namespace Rows

/-- THE TIED CARD OF 'laws.FnKept'. -/
def fnKeptCard : Claim7 := { stood := { row := fnKeptRow, standIns := [], harness := (true, "1c089371cf4daa9d137093f1aff20c71e809b37cbb8b543fcd0dbc148f91c5e6"), looks := true }, kinds := [], alts := [], laidByText := true, laidKinds := [.data, .data, .data, .data, .sentinel, .sentinel, .data, .pinned], laidTests := true, laidLooks := .later }
def FnKeptCardSaid : Prop := Claim7.holds Tryz.pinned (.plain (OpenSpec.ofChange fnKeptSpec)) fnKeptCard

/-- THE TIED CARD OF 'laws.FnHeading'. -/
def fnHeadingCard : Claim7 := { stood := { row := fnHeadingRow, standIns := [], harness := (true, "1c089371cf4daa9d137093f1aff20c71e809b37cbb8b543fcd0dbc148f91c5e6"), looks := true }, kinds := [], alts := [], laidByText := true, laidKinds := [.data, .data, .data, .data, .sentinel, .sentinel, .data, .pinned], laidTests := true, laidLooks := .later }
def FnHeadingCardSaid : Prop := Claim7.holds Tryz.pinned (.plain (OpenSpec.ofChange fnHeadingSpec)) fnHeadingCard

/-- THE TIED CARD OF 'laws.FnInterrupts'. -/
def fnInterruptsCard : Claim7 := { stood := { row := fnInterruptsRow, standIns := [], harness := (true, "1c089371cf4daa9d137093f1aff20c71e809b37cbb8b543fcd0dbc148f91c5e6"), looks := true }, kinds := [], alts := [], laidByText := true, laidKinds := [.data, .data, .data, .data, .sentinel, .sentinel, .data, .pinned], laidTests := true, laidLooks := .later }
def FnInterruptsCardSaid : Prop := Claim7.holds Tryz.pinned (.plain (OpenSpec.ofChange fnInterruptsSpec)) fnInterruptsCard

/-- THE TIED CARD OF 'laws.FnCodeSpan'. -/
def fnCodeSpanCard : Claim7 := { stood := { row := fnCodeSpanRow, standIns := [], harness := (true, "1c089371cf4daa9d137093f1aff20c71e809b37cbb8b543fcd0dbc148f91c5e6"), looks := true }, kinds := [], alts := [], laidByText := true, laidKinds := [.data, .data, .data, .data, .sentinel, .sentinel, .data, .pinned], laidTests := true, laidLooks := .later }
def FnCodeSpanCardSaid : Prop := Claim7.holds Tryz.pinned (.plain (OpenSpec.ofChange fnCodeSpanSpec)) fnCodeSpanCard

/-- THE TIED CARD OF 'laws.FnSmartDash'. -/
def fnSmartDashCard : Claim7 := { stood := { row := fnSmartDashRow, standIns := [], harness := (true, "1c089371cf4daa9d137093f1aff20c71e809b37cbb8b543fcd0dbc148f91c5e6"), looks := true }, kinds := [], alts := [], laidByText := true, laidKinds := [.data, .data, .data, .data, .sentinel, .sentinel, .data, .pinned], laidTests := true, laidLooks := .later }
def FnSmartDashCardSaid : Prop := Claim7.holds Tryz.pinned (.plain (OpenSpec.ofChange fnSmartDashSpec)) fnSmartDashCard

/-- THE TIED CARD OF 'laws.FnCodePoint'. -/
def fnCodePointCard : Claim7 := { stood := { row := fnCodePointRow, standIns := [], harness := (true, "1c089371cf4daa9d137093f1aff20c71e809b37cbb8b543fcd0dbc148f91c5e6"), looks := true }, kinds := [], alts := [], laidByText := true, laidKinds := [.data, .data, .data, .data, .sentinel, .sentinel, .data, .pinned], laidTests := true, laidLooks := .later }
def FnCodePointCardSaid : Prop := Claim7.holds Tryz.pinned (.plain (OpenSpec.ofChange fnCodePointSpec)) fnCodePointCard

/-- THE SECOND FORM's CARD OF 'laws.FnKept'. -/
def fnKeptUptoCard : Claim7 := { stood := { row := fnKeptUptoRow, standIns := [], harness := (true, "1c089371cf4daa9d137093f1aff20c71e809b37cbb8b543fcd0dbc148f91c5e6"), looks := true }, kinds := [], alts := [], laidByText := true, laidKinds := [.data, .data, .data, .data, .sentinel, .sentinel, .data, .pinned], laidTests := true, laidLooks := .later }
def FnKeptUptoCardSaid : Prop := Claim7.holds Tryz.pinned (.plain (OpenSpec.upto fnKeptSpec)) fnKeptUptoCard

/-- THE SECOND FORM's CARD OF 'laws.FnHeading'. -/
def fnHeadingUptoCard : Claim7 := { stood := { row := fnHeadingUptoRow, standIns := [], harness := (true, "1c089371cf4daa9d137093f1aff20c71e809b37cbb8b543fcd0dbc148f91c5e6"), looks := true }, kinds := [], alts := [], laidByText := true, laidKinds := [.data, .data, .data, .data, .sentinel, .sentinel, .data, .pinned], laidTests := true, laidLooks := .later }
def FnHeadingUptoCardSaid : Prop := Claim7.holds Tryz.pinned (.plain (OpenSpec.upto fnHeadingSpec)) fnHeadingUptoCard

/-- THE SECOND FORM's CARD OF 'laws.FnInterrupts'. -/
def fnInterruptsUptoCard : Claim7 := { stood := { row := fnInterruptsUptoRow, standIns := [], harness := (true, "1c089371cf4daa9d137093f1aff20c71e809b37cbb8b543fcd0dbc148f91c5e6"), looks := true }, kinds := [], alts := [], laidByText := true, laidKinds := [.data, .data, .data, .data, .sentinel, .sentinel, .data, .pinned], laidTests := true, laidLooks := .later }
def FnInterruptsUptoCardSaid : Prop := Claim7.holds Tryz.pinned (.plain (OpenSpec.upto fnInterruptsSpec)) fnInterruptsUptoCard

/-- THE SECOND FORM's CARD OF 'laws.FnCodeSpan'. -/
def fnCodeSpanUptoCard : Claim7 := { stood := { row := fnCodeSpanUptoRow, standIns := [], harness := (true, "1c089371cf4daa9d137093f1aff20c71e809b37cbb8b543fcd0dbc148f91c5e6"), looks := true }, kinds := [], alts := [], laidByText := true, laidKinds := [.data, .data, .data, .data, .sentinel, .sentinel, .data, .pinned], laidTests := true, laidLooks := .later }
def FnCodeSpanUptoCardSaid : Prop := Claim7.holds Tryz.pinned (.plain (OpenSpec.upto fnCodeSpanSpec)) fnCodeSpanUptoCard

/-- THE SECOND FORM's CARD OF 'laws.FnSmartDash'. -/
def fnSmartDashUptoCard : Claim7 := { stood := { row := fnSmartDashUptoRow, standIns := [], harness := (true, "1c089371cf4daa9d137093f1aff20c71e809b37cbb8b543fcd0dbc148f91c5e6"), looks := true }, kinds := [], alts := [], laidByText := true, laidKinds := [.data, .data, .data, .data, .sentinel, .sentinel, .data, .pinned], laidTests := true, laidLooks := .later }
def FnSmartDashUptoCardSaid : Prop := Claim7.holds Tryz.pinned (.plain (OpenSpec.upto fnSmartDashSpec)) fnSmartDashUptoCard

/-- THE SECOND FORM's CARD OF 'laws.FnCodePoint'. -/
def fnCodePointUptoCard : Claim7 := { stood := { row := fnCodePointUptoRow, standIns := [], harness := (true, "1c089371cf4daa9d137093f1aff20c71e809b37cbb8b543fcd0dbc148f91c5e6"), looks := true }, kinds := [], alts := [], laidByText := true, laidKinds := [.data, .data, .data, .data, .sentinel, .sentinel, .data, .pinned], laidTests := true, laidLooks := .later }
def FnCodePointUptoCardSaid : Prop := Claim7.holds Tryz.pinned (.plain (OpenSpec.upto fnCodePointSpec)) fnCodePointUptoCard
end Rows
end Go.Proofs.YtgdnbidjdiohkaaGreatDoor
