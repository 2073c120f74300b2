/- The closed facts that the row of FnFenceLonger asks of the program. -/
import Derived.Test.YtmcjhcfhglfmlaaGreatDoorLaw
import Derived.Test.YtmcjhcfhglfmlaaGreatDoorCards
namespace Go.Proofs.YtmcjhcfhglfmlaaGreatDoor.fnFenceLonger
open Go.ChangeShapes Go.WideShapes Go.ChangeAt Go.RowKit
set_option maxHeartbeats 8000000 in
set_option maxRecDepth 100000 in
theorem closed : joinedFacts Tryz.prog 3 Tryz.f3 (OpenSpec.ofChange Rows.fnFenceLongerSpec).bare Rows.fnFenceLongerRow = true := by
  unfold joinedFacts
  simp only [Bool.and_eq_true]
  repeat' (refine And.intro ?_ ?_)
  all_goals (as_aux_lemma => kernel_rfl)
theorem inst : Tryz.f3.isInstance Tryz.prog Rows.fnFenceLongerRow.origin Rows.fnFenceLongerRow.targs := of_decide_eq_true (by kernel_rfl)
theorem wrap : Tryz.f3.isWrapper Tryz.prog Rows.fnFenceLongerRow.wrapper Rows.fnFenceLongerRow.mainSum := by unfold Func.isWrapper; rw [if_neg (of_decide_eq_false (by kernel_rfl))]; exact ⟨rfl, rfl⟩
theorem looks : true = Tryz.prog.looks [] := by kernel_rfl
theorem named : Tryz.prog.funcNamed "pub-paratext/laws.FnFenceLonger" = some 3 := by kernel_rfl
theorem noStandS : Tryz.prog.wantsStandIn 9 = false := by kernel_rfl
theorem readS : Tryz.prog.readableRec 9 = true := by kernel_rfl
theorem noStand5 : Tryz.prog.wantsStandIn 5 = false := by kernel_rfl
theorem read5 : Tryz.prog.readableRec 5 = true := by kernel_rfl
theorem lt5 : 5 < Tryz.prog.types.size := of_decide_eq_true (by kernel_rfl)
theorem ltS : 9 < Tryz.prog.types.size := of_decide_eq_true (by kernel_rfl)
end Go.Proofs.YtmcjhcfhglfmlaaGreatDoor.fnFenceLonger
