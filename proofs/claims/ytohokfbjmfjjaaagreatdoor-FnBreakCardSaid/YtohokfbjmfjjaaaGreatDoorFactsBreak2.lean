/- The closed facts that the card of FnBreak asks of the program. -/
import Derived.Test.YtohokfbjmfjjaaaGreatDoorLaw
import Derived.Test.YtohokfbjmfjjaaaGreatDoorCards
namespace Go.Proofs.YtohokfbjmfjjaaaGreatDoor.fnBreak
open Go.ChangeShapes Go.WideShapes Go.ChangeAt Go.RowKit
theorem goes : false = Rows.fnBreakRow.goesBy Tryz.pinned.checked.prog := by kernel_rfl
theorem wfBy : Rows.fnBreakRow.wfByText (OpenSpec.ofChange Rows.fnBreakSpec) = true := by kernel_rfl
theorem mainIs : Tryz.pinned.checked.prog.mainIs = some ((true, "4cd73041c7671ca2e66817411edd94402383ca1121d1a14c7d87e2896341b991").1, (true, "4cd73041c7671ca2e66817411edd94402383ca1121d1a14c7d87e2896341b991").2.toList) := by kernel_rfl
end Go.Proofs.YtohokfbjmfjjaaaGreatDoor.fnBreak
