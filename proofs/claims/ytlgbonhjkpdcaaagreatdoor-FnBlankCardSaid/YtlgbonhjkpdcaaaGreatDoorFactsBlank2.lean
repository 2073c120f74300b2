/- The closed facts that the card of FnBlank asks of the program. -/
import Derived.Test.YtlgbonhjkpdcaaaGreatDoorLaw
import Derived.Test.YtlgbonhjkpdcaaaGreatDoorCards
namespace Go.Proofs.YtlgbonhjkpdcaaaGreatDoor.fnBlank
open Go.ChangeShapes Go.WideShapes Go.ChangeAt Go.RowKit
theorem goes : false = Rows.fnBlankRow.goesBy Tryz.pinned.checked.prog := by kernel_rfl
theorem wfBy : Rows.fnBlankRow.wfByText (OpenSpec.ofChange Rows.fnBlankSpec) = true := by kernel_rfl
theorem mainIs : Tryz.pinned.checked.prog.mainIs = some ((true, "4cd0a166c15e2e2f2c898cb3cc8470c03dadd1990accafc3e2bf4a75fb71ed6e").1, (true, "4cd0a166c15e2e2f2c898cb3cc8470c03dadd1990accafc3e2bf4a75fb71ed6e").2.toList) := by kernel_rfl
end Go.Proofs.YtlgbonhjkpdcaaaGreatDoor.fnBlank
