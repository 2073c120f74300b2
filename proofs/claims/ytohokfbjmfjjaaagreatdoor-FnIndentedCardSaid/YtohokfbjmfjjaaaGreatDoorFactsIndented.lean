/- The closed facts that the row of FnIndented asks of the program. -/
import Derived.Test.YtohokfbjmfjjaaaGreatDoorLaw
import Derived.Test.YtohokfbjmfjjaaaGreatDoorCards
namespace Go.Proofs.YtohokfbjmfjjaaaGreatDoor.fnIndented
open Go.ChangeShapes Go.WideShapes Go.ChangeAt Go.RowKit
set_option maxHeartbeats 8000000 in
set_option maxRecDepth 100000 in
theorem closed : joinedFacts Tryz.prog 4 Tryz.f4 (OpenSpec.ofChange Rows.fnIndentedSpec).bare Rows.fnIndentedRow = true := by
  unfold joinedFacts
  simp only [Bool.and_eq_true]
  repeat' (refine And.intro ?_ ?_)
  all_goals (as_aux_lemma => kernel_rfl)
theorem inst : Tryz.f4.isInstance Tryz.prog Rows.fnIndentedRow.origin Rows.fnIndentedRow.targs := of_decide_eq_true (by kernel_rfl)
theorem wrap : Tryz.f4.isWrapper Tryz.prog Rows.fnIndentedRow.wrapper Rows.fnIndentedRow.mainSum := by unfold Func.isWrapper; rw [if_neg (of_decide_eq_false (by kernel_rfl))]; exact ⟨rfl, rfl⟩
theorem cells5 : Tryz.prog.cellsOf 9 = 1 := by kernel_rfl
theorem looks : true = Tryz.prog.looks [] := by kernel_rfl
theorem noStand : Tryz.prog.wantsStandIn 29 = false := by kernel_rfl
theorem named : Tryz.prog.funcNamed "pub-paratext/laws.FnIndented" = some 4 := by kernel_rfl
theorem read22 : Tryz.prog.readableRec 29 = true := by kernel_rfl
theorem lt22 : 29 < Tryz.prog.types.size := of_decide_eq_true (by kernel_rfl)
end Go.Proofs.YtohokfbjmfjjaaaGreatDoor.fnIndented
