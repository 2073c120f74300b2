/- The closed facts that the card of FnFenceLonger asks of the program. -/
import Derived.Test.YtmcjhcfhglfmlaaGreatDoorLaw
import Derived.Test.YtmcjhcfhglfmlaaGreatDoorCards
namespace Go.Proofs.YtmcjhcfhglfmlaaGreatDoor.fnFenceLonger
open Go.ChangeShapes Go.WideShapes Go.ChangeAt Go.RowKit
theorem goes : false = Rows.fnFenceLongerRow.goesBy Tryz.pinned.checked.prog := by kernel_rfl
theorem wfBy : Rows.fnFenceLongerRow.wfByText (OpenSpec.ofChange Rows.fnFenceLongerSpec) = true := by kernel_rfl
theorem mainIs : Tryz.pinned.checked.prog.mainIs = some ((true, "1c16248e511b630b1883e391eb81e6f5e4ce08caa1437b5f880090ea37fd06d7").1, (true, "1c16248e511b630b1883e391eb81e6f5e4ce08caa1437b5f880090ea37fd06d7").2.toList) := by kernel_rfl
end Go.Proofs.YtmcjhcfhglfmlaaGreatDoor.fnFenceLonger
