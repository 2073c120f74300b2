/-
  DERIVED. GIVEN WITH THE SEED: THE CARDS: each row of YtpojmloeadodhaaGreatDoorRows.lean that lists a variable, with what it lists TIED to the program's text (the seventh form; the later family's looks); each row that meets fmt, with fmt's text TOLD by the authors' own Lean function (tested against real Go, not proved from fmt's source: count such statements apart). THE CARD IS WHAT COUNTS. Prove the row's statement (the work); the ties are given (YtpojmloeadodhaaGreatDoorTie.lean); close each card by the builder's one call (the guide's Derived/Test/ToyasCard.lean, 'card_holds'). Laid BY PROGRAM, IN A SANDBOX (cutbox-door.mjs). By AI agents, Wed Nov 11 2026. No macro, syntax, notation, axiom, sorry.
-/
import Derived.Test.YtpojmloeadodhaaGreatDoorRows
import GoSem.ClaimSeven
namespace Go.Proofs.YtpojmloeadodhaaGreatDoor
namespace Rows

/-- THE TIED CARD OF 'laws.FnKept'. -/
def fnKeptCard : Claim7 := { stood := { row := fnKeptRow, standIns := [], harness := (true, "1ed0bb808aca9620a07a9dc9eae41fbb3f78e60001960e86506c1a8a781df727"), looks := true }, kinds := [], alts := [], laidByText := true, laidKinds := [.data, .data, .data, .data, .sentinel, .sentinel, .data, .pinned], laidTests := true, laidLooks := .later }
def FnKeptCardSaid : Prop := Claim7.holds Tryz.pinned (.plain (OpenSpec.ofChange fnKeptSpec)) fnKeptCard

/-- THE TIED CARD OF 'laws.FnHeading'. -/
def fnHeadingCard : Claim7 := { stood := { row := fnHeadingRow, standIns := [], harness := (true, "1ed0bb808aca9620a07a9dc9eae41fbb3f78e60001960e86506c1a8a781df727"), looks := true }, kinds := [], alts := [], laidByText := true, laidKinds := [.data, .data, .data, .data, .sentinel, .sentinel, .data, .pinned], laidTests := true, laidLooks := .later }
def FnHeadingCardSaid : Prop := Claim7.holds Tryz.pinned (.plain (OpenSpec.ofChange fnHeadingSpec)) fnHeadingCard

/-- THE TIED CARD OF 'laws.FnInterrupts'. -/
def fnInterruptsCard : Claim7 := { stood := { row := fnInterruptsRow, standIns := [], harness := (true, "1ed0bb808aca9620a07a9dc9eae41fbb3f78e60001960e86506c1a8a781df727"), looks := true }, kinds := [], alts := [], laidByText := true, laidKinds := [.data, .data, .data, .data, .sentinel, .sentinel, .data, .pinned], laidTests := true, laidLooks := .later }
def FnInterruptsCardSaid : Prop := Claim7.holds Tryz.pinned (.plain (OpenSpec.ofChange fnInterruptsSpec)) fnInterruptsCard

/-- THE TIED CARD OF 'laws.FnCodePoint'. -/
def fnCodePointCard : Claim7 := { stood := { row := fnCodePointRow, standIns := [], harness := (true, "1ed0bb808aca9620a07a9dc9eae41fbb3f78e60001960e86506c1a8a781df727"), looks := true }, kinds := [], alts := [], laidByText := true, laidKinds := [.data, .data, .data, .data, .sentinel, .sentinel, .data, .pinned], laidTests := true, laidLooks := .later }
def FnCodePointCardSaid : Prop := Claim7.holds Tryz.pinned (.plain (OpenSpec.ofChange fnCodePointSpec)) fnCodePointCard

/-- THE TIED CARD OF 'laws.FnCounted'. -/
def fnCountedCard : Claim7 := { stood := { row := fnCountedRow, standIns := [], harness := (true, "1ed0bb808aca9620a07a9dc9eae41fbb3f78e60001960e86506c1a8a781df727"), looks := true }, kinds := [], alts := [], laidByText := true, laidKinds := [.data, .data, .data, .data, .sentinel, .sentinel, .data, .pinned], laidTests := true, laidLooks := .later }
def FnCountedCardSaid : Prop := Claim7.holds Tryz.pinned (.plain (OpenSpec.ofChange fnCountedSpec)) fnCountedCard

/-- THE TIED CARD OF 'laws.FnMail'. -/
def fnMailCard : Claim7 := { stood := { row := fnMailRow, standIns := [], harness := (true, "1ed0bb808aca9620a07a9dc9eae41fbb3f78e60001960e86506c1a8a781df727"), looks := true }, kinds := [], alts := [], laidByText := true, laidKinds := [.data, .data, .data, .data, .sentinel, .sentinel, .data, .pinned], laidTests := true, laidLooks := .later }
def FnMailCardSaid : Prop := Claim7.holds Tryz.pinned (.plain (OpenSpec.ofChange fnMailSpec)) fnMailCard

/-- THE SECOND FORM's CARD OF 'laws.FnKept'. -/
def fnKeptUptoCard : Claim7 := { stood := { row := fnKeptUptoRow, standIns := [], harness := (true, "1ed0bb808aca9620a07a9dc9eae41fbb3f78e60001960e86506c1a8a781df727"), looks := true }, kinds := [], alts := [], laidByText := true, laidKinds := [.data, .data, .data, .data, .sentinel, .sentinel, .data, .pinned], laidTests := true, laidLooks := .later }
def FnKeptUptoCardSaid : Prop := Claim7.holds Tryz.pinned (.plain (OpenSpec.upto fnKeptSpec)) fnKeptUptoCard

/-- THE SECOND FORM's CARD OF 'laws.FnHeading'. -/
def fnHeadingUptoCard : Claim7 := { stood := { row := fnHeadingUptoRow, standIns := [], harness := (true, "1ed0bb808aca9620a07a9dc9eae41fbb3f78e60001960e86506c1a8a781df727"), looks := true }, kinds := [], alts := [], laidByText := true, laidKinds := [.data, .data, .data, .data, .sentinel, .sentinel, .data, .pinned], laidTests := true, laidLooks := .later }
def FnHeadingUptoCardSaid : Prop := Claim7.holds Tryz.pinned (.plain (OpenSpec.upto fnHeadingSpec)) fnHeadingUptoCard

/-- THE SECOND FORM's CARD OF 'laws.FnInterrupts'. -/
def fnInterruptsUptoCard : Claim7 := { stood := { row := fnInterruptsUptoRow, standIns := [], harness := (true, "1ed0bb808aca9620a07a9dc9eae41fbb3f78e60001960e86506c1a8a781df727"), looks := true }, kinds := [], alts := [], laidByText := true, laidKinds := [.data, .data, .data, .data, .sentinel, .sentinel, .data, .pinned], laidTests := true, laidLooks := .later }
def FnInterruptsUptoCardSaid : Prop := Claim7.holds Tryz.pinned (.plain (OpenSpec.upto fnInterruptsSpec)) fnInterruptsUptoCard

/-- THE SECOND FORM's CARD OF 'laws.FnCodePoint'. -/
def fnCodePointUptoCard : Claim7 := { stood := { row := fnCodePointUptoRow, standIns := [], harness := (true, "1ed0bb808aca9620a07a9dc9eae41fbb3f78e60001960e86506c1a8a781df727"), looks := true }, kinds := [], alts := [], laidByText := true, laidKinds := [.data, .data, .data, .data, .sentinel, .sentinel, .data, .pinned], laidTests := true, laidLooks := .later }
def FnCodePointUptoCardSaid : Prop := Claim7.holds Tryz.pinned (.plain (OpenSpec.upto fnCodePointSpec)) fnCodePointUptoCard

/-- THE SECOND FORM's CARD OF 'laws.FnCounted'. -/
def fnCountedUptoCard : Claim7 := { stood := { row := fnCountedUptoRow, standIns := [], harness := (true, "1ed0bb808aca9620a07a9dc9eae41fbb3f78e60001960e86506c1a8a781df727"), looks := true }, kinds := [], alts := [], laidByText := true, laidKinds := [.data, .data, .data, .data, .sentinel, .sentinel, .data, .pinned], laidTests := true, laidLooks := .later }
def FnCountedUptoCardSaid : Prop := Claim7.holds Tryz.pinned (.plain (OpenSpec.upto fnCountedSpec)) fnCountedUptoCard

/-- THE SECOND FORM's CARD OF 'laws.FnMail'. -/
def fnMailUptoCard : Claim7 := { stood := { row := fnMailUptoRow, standIns := [], harness := (true, "1ed0bb808aca9620a07a9dc9eae41fbb3f78e60001960e86506c1a8a781df727"), looks := true }, kinds := [], alts := [], laidByText := true, laidKinds := [.data, .data, .data, .data, .sentinel, .sentinel, .data, .pinned], laidTests := true, laidLooks := .later }
def FnMailUptoCardSaid : Prop := Claim7.holds Tryz.pinned (.plain (OpenSpec.upto fnMailSpec)) fnMailUptoCard
end Rows
end Go.Proofs.YtpojmloeadodhaaGreatDoor
