/-
  DERIVED. GIVEN WITH THE SEED: THE CARDS: each row of YtlgbonhjkpdcaaaGreatDoorRows.lean that lists a variable, with what it lists TIED to the program's text (the seventh form; the later family's looks); each row that meets fmt, with fmt's text TOLD by the authors' own Lean function (tested against real Go, not proved from fmt's source: count such statements apart). THE CARD IS WHAT COUNTS. Prove the row's statement (the work); the ties are given (YtlgbonhjkpdcaaaGreatDoorTie.lean); close each card by the builder's one call (the guide's Derived/Test/ToyasCard.lean, 'card_holds'). Laid BY PROGRAM, IN A SANDBOX (cutbox-door.mjs). By AI agents, Wed Nov 11 2026. No macro, syntax, notation, axiom, sorry.
-/
import Derived.Test.YtlgbonhjkpdcaaaGreatDoorRows
import GoSem.ClaimSeven
namespace Go.Proofs.YtlgbonhjkpdcaaaGreatDoor
namespace Rows

/-- THE TIED CARD OF 'laws.FnBlank'. -/
def fnBlankCard : Claim7 := { stood := { row := fnBlankRow, standIns := [], harness := (true, "4cd0a166c15e2e2f2c898cb3cc8470c03dadd1990accafc3e2bf4a75fb71ed6e"), looks := true }, kinds := [], alts := [], laidByText := true, laidKinds := [.data, .data, .data, .data, .sentinel, .sentinel, .data, .pinned], laidTests := true, laidLooks := .later }
def FnBlankCardSaid : Prop := Claim7.holds Tryz.pinned (.plain (OpenSpec.ofChange fnBlankSpec)) fnBlankCard

/-- THE TIED CARD OF 'laws.FnBalanced'. -/
def fnBalancedCard : Claim7 := { stood := { row := fnBalancedRow, standIns := [], harness := (true, "4cd0a166c15e2e2f2c898cb3cc8470c03dadd1990accafc3e2bf4a75fb71ed6e"), looks := true }, kinds := [], alts := [], laidByText := true, laidKinds := [.data, .data, .data, .data, .sentinel, .sentinel, .data, .pinned], laidTests := true, laidLooks := .later }
def FnBalancedCardSaid : Prop := Claim7.holds Tryz.pinned (.plain (OpenSpec.ofChange fnBalancedSpec)) fnBalancedCard

/-- THE TIED CARD OF 'laws.FnBreak'. -/
def fnBreakCard : Claim7 := { stood := { row := fnBreakRow, standIns := [], harness := (true, "4cd0a166c15e2e2f2c898cb3cc8470c03dadd1990accafc3e2bf4a75fb71ed6e"), looks := true }, kinds := [], alts := [], laidByText := true, laidKinds := [.data, .data, .data, .data, .sentinel, .sentinel, .data, .pinned], laidTests := true, laidLooks := .later }
def FnBreakCardSaid : Prop := Claim7.holds Tryz.pinned (.plain (OpenSpec.ofChange fnBreakSpec)) fnBreakCard

/-- THE TIED CARD OF 'laws.FnCodePoint'. -/
def fnCodePointCard : Claim7 := { stood := { row := fnCodePointRow, standIns := [], harness := (true, "4cd0a166c15e2e2f2c898cb3cc8470c03dadd1990accafc3e2bf4a75fb71ed6e"), looks := true }, kinds := [], alts := [], laidByText := true, laidKinds := [.data, .data, .data, .data, .sentinel, .sentinel, .data, .pinned], laidTests := true, laidLooks := .later }
def FnCodePointCardSaid : Prop := Claim7.holds Tryz.pinned (.plain (OpenSpec.ofChange fnCodePointSpec)) fnCodePointCard

/-- THE TIED CARD OF 'laws.FnCodeSpan'. -/
def fnCodeSpanCard : Claim7 := { stood := { row := fnCodeSpanRow, standIns := [], harness := (true, "4cd0a166c15e2e2f2c898cb3cc8470c03dadd1990accafc3e2bf4a75fb71ed6e"), looks := true }, kinds := [], alts := [], laidByText := true, laidKinds := [.data, .data, .data, .data, .sentinel, .sentinel, .data, .pinned], laidTests := true, laidLooks := .later }
def FnCodeSpanCardSaid : Prop := Claim7.holds Tryz.pinned (.plain (OpenSpec.ofChange fnCodeSpanSpec)) fnCodeSpanCard

/-- THE TIED CARD OF 'laws.FnCounted'. -/
def fnCountedCard : Claim7 := { stood := { row := fnCountedRow, standIns := [], harness := (true, "4cd0a166c15e2e2f2c898cb3cc8470c03dadd1990accafc3e2bf4a75fb71ed6e"), looks := true }, kinds := [], alts := [], laidByText := true, laidKinds := [.data, .data, .data, .data, .sentinel, .sentinel, .data, .pinned], laidTests := true, laidLooks := .later }
def FnCountedCardSaid : Prop := Claim7.holds Tryz.pinned (.plain (OpenSpec.ofChange fnCountedSpec)) fnCountedCard

/-- THE TIED CARD OF 'laws.FnFenceLonger'. -/
def fnFenceLongerCard : Claim7 := { stood := { row := fnFenceLongerRow, standIns := [], harness := (true, "4cd0a166c15e2e2f2c898cb3cc8470c03dadd1990accafc3e2bf4a75fb71ed6e"), looks := true }, kinds := [], alts := [], laidByText := true, laidKinds := [.data, .data, .data, .data, .sentinel, .sentinel, .data, .pinned], laidTests := true, laidLooks := .later }
def FnFenceLongerCardSaid : Prop := Claim7.holds Tryz.pinned (.plain (OpenSpec.ofChange fnFenceLongerSpec)) fnFenceLongerCard

/-- THE TIED CARD OF 'laws.FnHeading'. -/
def fnHeadingCard : Claim7 := { stood := { row := fnHeadingRow, standIns := [], harness := (true, "4cd0a166c15e2e2f2c898cb3cc8470c03dadd1990accafc3e2bf4a75fb71ed6e"), looks := true }, kinds := [], alts := [], laidByText := true, laidKinds := [.data, .data, .data, .data, .sentinel, .sentinel, .data, .pinned], laidTests := true, laidLooks := .later }
def FnHeadingCardSaid : Prop := Claim7.holds Tryz.pinned (.plain (OpenSpec.ofChange fnHeadingSpec)) fnHeadingCard

/-- THE TIED CARD OF 'laws.FnIndented'. -/
def fnIndentedCard : Claim7 := { stood := { row := fnIndentedRow, standIns := [], harness := (true, "4cd0a166c15e2e2f2c898cb3cc8470c03dadd1990accafc3e2bf4a75fb71ed6e"), looks := true }, kinds := [], alts := [], laidByText := true, laidKinds := [.data, .data, .data, .data, .sentinel, .sentinel, .data, .pinned], laidTests := true, laidLooks := .later }
def FnIndentedCardSaid : Prop := Claim7.holds Tryz.pinned (.plain (OpenSpec.ofChange fnIndentedSpec)) fnIndentedCard

/-- THE TIED CARD OF 'laws.FnInterrupts'. -/
def fnInterruptsCard : Claim7 := { stood := { row := fnInterruptsRow, standIns := [], harness := (true, "4cd0a166c15e2e2f2c898cb3cc8470c03dadd1990accafc3e2bf4a75fb71ed6e"), looks := true }, kinds := [], alts := [], laidByText := true, laidKinds := [.data, .data, .data, .data, .sentinel, .sentinel, .data, .pinned], laidTests := true, laidLooks := .later }
def FnInterruptsCardSaid : Prop := Claim7.holds Tryz.pinned (.plain (OpenSpec.ofChange fnInterruptsSpec)) fnInterruptsCard

/-- THE TIED CARD OF 'laws.FnKept'. -/
def fnKeptCard : Claim7 := { stood := { row := fnKeptRow, standIns := [], harness := (true, "4cd0a166c15e2e2f2c898cb3cc8470c03dadd1990accafc3e2bf4a75fb71ed6e"), looks := true }, kinds := [], alts := [], laidByText := true, laidKinds := [.data, .data, .data, .data, .sentinel, .sentinel, .data, .pinned], laidTests := true, laidLooks := .later }
def FnKeptCardSaid : Prop := Claim7.holds Tryz.pinned (.plain (OpenSpec.ofChange fnKeptSpec)) fnKeptCard

/-- THE TIED CARD OF 'laws.FnSmartDash'. -/
def fnSmartDashCard : Claim7 := { stood := { row := fnSmartDashRow, standIns := [], harness := (true, "4cd0a166c15e2e2f2c898cb3cc8470c03dadd1990accafc3e2bf4a75fb71ed6e"), looks := true }, kinds := [], alts := [], laidByText := true, laidKinds := [.data, .data, .data, .data, .sentinel, .sentinel, .data, .pinned], laidTests := true, laidLooks := .later }
def FnSmartDashCardSaid : Prop := Claim7.holds Tryz.pinned (.plain (OpenSpec.ofChange fnSmartDashSpec)) fnSmartDashCard

/-- THE SECOND FORM's CARD OF 'laws.FnBlank'. -/
def fnBlankUptoCard : Claim7 := { stood := { row := fnBlankUptoRow, standIns := [], harness := (true, "4cd0a166c15e2e2f2c898cb3cc8470c03dadd1990accafc3e2bf4a75fb71ed6e"), looks := true }, kinds := [], alts := [], laidByText := true, laidKinds := [.data, .data, .data, .data, .sentinel, .sentinel, .data, .pinned], laidTests := true, laidLooks := .later }
def FnBlankUptoCardSaid : Prop := Claim7.holds Tryz.pinned (.plain (OpenSpec.upto fnBlankSpec)) fnBlankUptoCard

/-- THE SECOND FORM's CARD OF 'laws.FnBalanced'. -/
def fnBalancedUptoCard : Claim7 := { stood := { row := fnBalancedUptoRow, standIns := [], harness := (true, "4cd0a166c15e2e2f2c898cb3cc8470c03dadd1990accafc3e2bf4a75fb71ed6e"), looks := true }, kinds := [], alts := [], laidByText := true, laidKinds := [.data, .data, .data, .data, .sentinel, .sentinel, .data, .pinned], laidTests := true, laidLooks := .later }
def FnBalancedUptoCardSaid : Prop := Claim7.holds Tryz.pinned (.plain (OpenSpec.upto fnBalancedSpec)) fnBalancedUptoCard

/-- THE SECOND FORM's CARD OF 'laws.FnBreak'. -/
def fnBreakUptoCard : Claim7 := { stood := { row := fnBreakUptoRow, standIns := [], harness := (true, "4cd0a166c15e2e2f2c898cb3cc8470c03dadd1990accafc3e2bf4a75fb71ed6e"), looks := true }, kinds := [], alts := [], laidByText := true, laidKinds := [.data, .data, .data, .data, .sentinel, .sentinel, .data, .pinned], laidTests := true, laidLooks := .later }
def FnBreakUptoCardSaid : Prop := Claim7.holds Tryz.pinned (.plain (OpenSpec.upto fnBreakSpec)) fnBreakUptoCard

/-- THE SECOND FORM's CARD OF 'laws.FnCodePoint'. -/
def fnCodePointUptoCard : Claim7 := { stood := { row := fnCodePointUptoRow, standIns := [], harness := (true, "4cd0a166c15e2e2f2c898cb3cc8470c03dadd1990accafc3e2bf4a75fb71ed6e"), looks := true }, kinds := [], alts := [], laidByText := true, laidKinds := [.data, .data, .data, .data, .sentinel, .sentinel, .data, .pinned], laidTests := true, laidLooks := .later }
def FnCodePointUptoCardSaid : Prop := Claim7.holds Tryz.pinned (.plain (OpenSpec.upto fnCodePointSpec)) fnCodePointUptoCard

/-- THE SECOND FORM's CARD OF 'laws.FnCodeSpan'. -/
def fnCodeSpanUptoCard : Claim7 := { stood := { row := fnCodeSpanUptoRow, standIns := [], harness := (true, "4cd0a166c15e2e2f2c898cb3cc8470c03dadd1990accafc3e2bf4a75fb71ed6e"), looks := true }, kinds := [], alts := [], laidByText := true, laidKinds := [.data, .data, .data, .data, .sentinel, .sentinel, .data, .pinned], laidTests := true, laidLooks := .later }
def FnCodeSpanUptoCardSaid : Prop := Claim7.holds Tryz.pinned (.plain (OpenSpec.upto fnCodeSpanSpec)) fnCodeSpanUptoCard

/-- THE SECOND FORM's CARD OF 'laws.FnCounted'. -/
def fnCountedUptoCard : Claim7 := { stood := { row := fnCountedUptoRow, standIns := [], harness := (true, "4cd0a166c15e2e2f2c898cb3cc8470c03dadd1990accafc3e2bf4a75fb71ed6e"), looks := true }, kinds := [], alts := [], laidByText := true, laidKinds := [.data, .data, .data, .data, .sentinel, .sentinel, .data, .pinned], laidTests := true, laidLooks := .later }
def FnCountedUptoCardSaid : Prop := Claim7.holds Tryz.pinned (.plain (OpenSpec.upto fnCountedSpec)) fnCountedUptoCard

/-- THE SECOND FORM's CARD OF 'laws.FnFenceLonger'. -/
def fnFenceLongerUptoCard : Claim7 := { stood := { row := fnFenceLongerUptoRow, standIns := [], harness := (true, "4cd0a166c15e2e2f2c898cb3cc8470c03dadd1990accafc3e2bf4a75fb71ed6e"), looks := true }, kinds := [], alts := [], laidByText := true, laidKinds := [.data, .data, .data, .data, .sentinel, .sentinel, .data, .pinned], laidTests := true, laidLooks := .later }
def FnFenceLongerUptoCardSaid : Prop := Claim7.holds Tryz.pinned (.plain (OpenSpec.upto fnFenceLongerSpec)) fnFenceLongerUptoCard

/-- THE SECOND FORM's CARD OF 'laws.FnHeading'. -/
def fnHeadingUptoCard : Claim7 := { stood := { row := fnHeadingUptoRow, standIns := [], harness := (true, "4cd0a166c15e2e2f2c898cb3cc8470c03dadd1990accafc3e2bf4a75fb71ed6e"), looks := true }, kinds := [], alts := [], laidByText := true, laidKinds := [.data, .data, .data, .data, .sentinel, .sentinel, .data, .pinned], laidTests := true, laidLooks := .later }
def FnHeadingUptoCardSaid : Prop := Claim7.holds Tryz.pinned (.plain (OpenSpec.upto fnHeadingSpec)) fnHeadingUptoCard

/-- THE SECOND FORM's CARD OF 'laws.FnIndented'. -/
def fnIndentedUptoCard : Claim7 := { stood := { row := fnIndentedUptoRow, standIns := [], harness := (true, "4cd0a166c15e2e2f2c898cb3cc8470c03dadd1990accafc3e2bf4a75fb71ed6e"), looks := true }, kinds := [], alts := [], laidByText := true, laidKinds := [.data, .data, .data, .data, .sentinel, .sentinel, .data, .pinned], laidTests := true, laidLooks := .later }
def FnIndentedUptoCardSaid : Prop := Claim7.holds Tryz.pinned (.plain (OpenSpec.upto fnIndentedSpec)) fnIndentedUptoCard

/-- THE SECOND FORM's CARD OF 'laws.FnInterrupts'. -/
def fnInterruptsUptoCard : Claim7 := { stood := { row := fnInterruptsUptoRow, standIns := [], harness := (true, "4cd0a166c15e2e2f2c898cb3cc8470c03dadd1990accafc3e2bf4a75fb71ed6e"), looks := true }, kinds := [], alts := [], laidByText := true, laidKinds := [.data, .data, .data, .data, .sentinel, .sentinel, .data, .pinned], laidTests := true, laidLooks := .later }
def FnInterruptsUptoCardSaid : Prop := Claim7.holds Tryz.pinned (.plain (OpenSpec.upto fnInterruptsSpec)) fnInterruptsUptoCard

/-- THE SECOND FORM's CARD OF 'laws.FnKept'. -/
def fnKeptUptoCard : Claim7 := { stood := { row := fnKeptUptoRow, standIns := [], harness := (true, "4cd0a166c15e2e2f2c898cb3cc8470c03dadd1990accafc3e2bf4a75fb71ed6e"), looks := true }, kinds := [], alts := [], laidByText := true, laidKinds := [.data, .data, .data, .data, .sentinel, .sentinel, .data, .pinned], laidTests := true, laidLooks := .later }
def FnKeptUptoCardSaid : Prop := Claim7.holds Tryz.pinned (.plain (OpenSpec.upto fnKeptSpec)) fnKeptUptoCard

/-- THE SECOND FORM's CARD OF 'laws.FnSmartDash'. -/
def fnSmartDashUptoCard : Claim7 := { stood := { row := fnSmartDashUptoRow, standIns := [], harness := (true, "4cd0a166c15e2e2f2c898cb3cc8470c03dadd1990accafc3e2bf4a75fb71ed6e"), looks := true }, kinds := [], alts := [], laidByText := true, laidKinds := [.data, .data, .data, .data, .sentinel, .sentinel, .data, .pinned], laidTests := true, laidLooks := .later }
def FnSmartDashUptoCardSaid : Prop := Claim7.holds Tryz.pinned (.plain (OpenSpec.upto fnSmartDashSpec)) fnSmartDashUptoCard
end Rows
end Go.Proofs.YtlgbonhjkpdcaaaGreatDoor
