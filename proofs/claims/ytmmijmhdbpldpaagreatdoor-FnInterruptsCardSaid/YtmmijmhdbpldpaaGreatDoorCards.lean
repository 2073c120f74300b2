/-
  DERIVED. GIVEN WITH THE SEED: THE CARDS: each row of YtmmijmhdbpldpaaGreatDoorRows.lean that lists a variable, with what it lists TIED to the program's text (the seventh form; the later family's looks); each row that meets fmt, with fmt's text TOLD by the authors' own Lean function (tested against real Go, not proved from fmt's source: count such statements apart). THE CARD IS WHAT COUNTS. Prove the row's statement (the work); the ties are given (YtmmijmhdbpldpaaGreatDoorTie.lean); close each card by the builder's one call (the guide's Derived/Test/ToyasCard.lean, 'card_holds'). Laid BY PROGRAM, IN A SANDBOX (cutbox-door.mjs). By AI agents, Wed Nov 11 2026. No macro, syntax, notation, axiom, sorry.
-/
import Derived.Test.YtmmijmhdbpldpaaGreatDoorRows
import GoSem.ClaimSeven
namespace Go.Proofs.YtmmijmhdbpldpaaGreatDoor
namespace Rows

/-- THE TIED CARD OF 'laws.FnAuto'. -/
def fnAutoCard : Claim7 := { stood := { row := fnAutoRow, standIns := [], harness := (true, "95e68baec09978130d1dc4d5052b3c4126b0390ccf37554e0a187599024dd8dc"), looks := true }, kinds := [], alts := [], laidByText := true, laidKinds := [.data, .data, .data, .data, .sentinel, .sentinel, .data, .pinned], laidTests := true, laidLooks := .later }
def FnAutoCardSaid : Prop := Claim7.holds Tryz.pinned (.plain (OpenSpec.ofChange fnAutoSpec)) fnAutoCard

/-- THE TIED CARD OF 'laws.FnBalanced'. -/
def fnBalancedCard : Claim7 := { stood := { row := fnBalancedRow, standIns := [], harness := (true, "95e68baec09978130d1dc4d5052b3c4126b0390ccf37554e0a187599024dd8dc"), looks := true }, kinds := [], alts := [], laidByText := true, laidKinds := [.data, .data, .data, .data, .sentinel, .sentinel, .data, .pinned], laidTests := true, laidLooks := .later }
def FnBalancedCardSaid : Prop := Claim7.holds Tryz.pinned (.plain (OpenSpec.ofChange fnBalancedSpec)) fnBalancedCard

/-- THE TIED CARD OF 'laws.FnReference'. -/
def fnReferenceCard : Claim7 := { stood := { row := fnReferenceRow, standIns := [], harness := (true, "95e68baec09978130d1dc4d5052b3c4126b0390ccf37554e0a187599024dd8dc"), looks := true }, kinds := [], alts := [], laidByText := true, laidKinds := [.data, .data, .data, .data, .sentinel, .sentinel, .data, .pinned], laidTests := true, laidLooks := .later }
def FnReferenceCardSaid : Prop := Claim7.holds Tryz.pinned (.plain (OpenSpec.ofChange fnReferenceSpec)) fnReferenceCard

/-- THE TIED CARD OF 'laws.FnCounted'. -/
def fnCountedCard : Claim7 := { stood := { row := fnCountedRow, standIns := [], harness := (true, "95e68baec09978130d1dc4d5052b3c4126b0390ccf37554e0a187599024dd8dc"), looks := true }, kinds := [], alts := [], laidByText := true, laidKinds := [.data, .data, .data, .data, .sentinel, .sentinel, .data, .pinned], laidTests := true, laidLooks := .later }
def FnCountedCardSaid : Prop := Claim7.holds Tryz.pinned (.plain (OpenSpec.ofChange fnCountedSpec)) fnCountedCard

/-- THE TIED CARD OF 'laws.FnKept'. -/
def fnKeptCard : Claim7 := { stood := { row := fnKeptRow, standIns := [], harness := (true, "95e68baec09978130d1dc4d5052b3c4126b0390ccf37554e0a187599024dd8dc"), looks := true }, kinds := [], alts := [], laidByText := true, laidKinds := [.data, .data, .data, .data, .sentinel, .sentinel, .data, .pinned], laidTests := true, laidLooks := .later }
def FnKeptCardSaid : Prop := Claim7.holds Tryz.pinned (.plain (OpenSpec.ofChange fnKeptSpec)) fnKeptCard

/-- THE TIED CARD OF 'laws.FnInterrupts'. -/
def fnInterruptsCard : Claim7 := { stood := { row := fnInterruptsRow, standIns := [], harness := (true, "95e68baec09978130d1dc4d5052b3c4126b0390ccf37554e0a187599024dd8dc"), looks := true }, kinds := [], alts := [], laidByText := true, laidKinds := [.data, .data, .data, .data, .sentinel, .sentinel, .data, .pinned], laidTests := true, laidLooks := .later }
def FnInterruptsCardSaid : Prop := Claim7.holds Tryz.pinned (.plain (OpenSpec.ofChange fnInterruptsSpec)) fnInterruptsCard

/-- THE SECOND FORM's CARD OF 'laws.FnAuto'. -/
def fnAutoUptoCard : Claim7 := { stood := { row := fnAutoUptoRow, standIns := [], harness := (true, "95e68baec09978130d1dc4d5052b3c4126b0390ccf37554e0a187599024dd8dc"), looks := true }, kinds := [], alts := [], laidByText := true, laidKinds := [.data, .data, .data, .data, .sentinel, .sentinel, .data, .pinned], laidTests := true, laidLooks := .later }
def FnAutoUptoCardSaid : Prop := Claim7.holds Tryz.pinned (.plain (OpenSpec.upto fnAutoSpec)) fnAutoUptoCard

/-- THE SECOND FORM's CARD OF 'laws.FnBalanced'. -/
def fnBalancedUptoCard : Claim7 := { stood := { row := fnBalancedUptoRow, standIns := [], harness := (true, "95e68baec09978130d1dc4d5052b3c4126b0390ccf37554e0a187599024dd8dc"), looks := true }, kinds := [], alts := [], laidByText := true, laidKinds := [.data, .data, .data, .data, .sentinel, .sentinel, .data, .pinned], laidTests := true, laidLooks := .later }
def FnBalancedUptoCardSaid : Prop := Claim7.holds Tryz.pinned (.plain (OpenSpec.upto fnBalancedSpec)) fnBalancedUptoCard

/-- THE SECOND FORM's CARD OF 'laws.FnReference'. -/
def fnReferenceUptoCard : Claim7 := { stood := { row := fnReferenceUptoRow, standIns := [], harness := (true, "95e68baec09978130d1dc4d5052b3c4126b0390ccf37554e0a187599024dd8dc"), looks := true }, kinds := [], alts := [], laidByText := true, laidKinds := [.data, .data, .data, .data, .sentinel, .sentinel, .data, .pinned], laidTests := true, laidLooks := .later }
def FnReferenceUptoCardSaid : Prop := Claim7.holds Tryz.pinned (.plain (OpenSpec.upto fnReferenceSpec)) fnReferenceUptoCard

/-- THE SECOND FORM's CARD OF 'laws.FnCounted'. -/
def fnCountedUptoCard : Claim7 := { stood := { row := fnCountedUptoRow, standIns := [], harness := (true, "95e68baec09978130d1dc4d5052b3c4126b0390ccf37554e0a187599024dd8dc"), looks := true }, kinds := [], alts := [], laidByText := true, laidKinds := [.data, .data, .data, .data, .sentinel, .sentinel, .data, .pinned], laidTests := true, laidLooks := .later }
def FnCountedUptoCardSaid : Prop := Claim7.holds Tryz.pinned (.plain (OpenSpec.upto fnCountedSpec)) fnCountedUptoCard

/-- THE SECOND FORM's CARD OF 'laws.FnKept'. -/
def fnKeptUptoCard : Claim7 := { stood := { row := fnKeptUptoRow, standIns := [], harness := (true, "95e68baec09978130d1dc4d5052b3c4126b0390ccf37554e0a187599024dd8dc"), looks := true }, kinds := [], alts := [], laidByText := true, laidKinds := [.data, .data, .data, .data, .sentinel, .sentinel, .data, .pinned], laidTests := true, laidLooks := .later }
def FnKeptUptoCardSaid : Prop := Claim7.holds Tryz.pinned (.plain (OpenSpec.upto fnKeptSpec)) fnKeptUptoCard

/-- THE SECOND FORM's CARD OF 'laws.FnInterrupts'. -/
def fnInterruptsUptoCard : Claim7 := { stood := { row := fnInterruptsUptoRow, standIns := [], harness := (true, "95e68baec09978130d1dc4d5052b3c4126b0390ccf37554e0a187599024dd8dc"), looks := true }, kinds := [], alts := [], laidByText := true, laidKinds := [.data, .data, .data, .data, .sentinel, .sentinel, .data, .pinned], laidTests := true, laidLooks := .later }
def FnInterruptsUptoCardSaid : Prop := Claim7.holds Tryz.pinned (.plain (OpenSpec.upto fnInterruptsSpec)) fnInterruptsUptoCard
end Rows
end Go.Proofs.YtmmijmhdbpldpaaGreatDoor
