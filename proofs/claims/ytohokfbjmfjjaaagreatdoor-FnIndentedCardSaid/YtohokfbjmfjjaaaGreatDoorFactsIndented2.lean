/- The closed facts that the card of FnIndented asks of the program. -/
import Derived.Test.YtohokfbjmfjjaaaGreatDoorLaw
import Derived.Test.YtohokfbjmfjjaaaGreatDoorCards
namespace Go.Proofs.YtohokfbjmfjjaaaGreatDoor.fnIndented
open Go.ChangeShapes Go.WideShapes Go.ChangeAt Go.RowKit
theorem goes : false = Rows.fnIndentedRow.goesBy Tryz.pinned.checked.prog := by kernel_rfl
theorem wfBy : Rows.fnIndentedRow.wfByText (OpenSpec.ofChange Rows.fnIndentedSpec) = true := by kernel_rfl
theorem mainIs : Tryz.pinned.checked.prog.mainIs = some ((true, "4cd73041c7671ca2e66817411edd94402383ca1121d1a14c7d87e2896341b991").1, (true, "4cd73041c7671ca2e66817411edd94402383ca1121d1a14c7d87e2896341b991").2.toList) := by kernel_rfl
end Go.Proofs.YtohokfbjmfjjaaaGreatDoor.fnIndented
