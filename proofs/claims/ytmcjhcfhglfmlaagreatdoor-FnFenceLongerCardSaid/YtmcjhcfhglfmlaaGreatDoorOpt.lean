/- Options and the parser that they make. -/
import Derived.Test.YtmcjhcfhglfmlaaGreatDoorBase
import Derived.Test.YtmcjhcfhglfmlaaGreatDoorProg
namespace Go.Proofs.YtmcjhcfhglfmlaaGreatDoor
open Go.RowKit
/-- Options, as the program's structure holds them. -/
structure Opt where
  del : Bool
  tasks : Bool
  auto_ : Bool
  autoHTTP : Bool
  tables : Bool
  dots : Bool
  dashes : Bool
  quotes : Bool
  headID : Bool
  emoji : Bool
def Opt.v (o : Opt) : Value := .agg #[.bool o.del, .bool o.tasks, .bool o.auto_, .bool o.autoHTTP, .bool o.tables, .bool o.dots, .bool o.dashes, .bool o.quotes, .bool o.headID, .bool o.emoji]
/-- The cells of a Parser with these options. -/
def Opt.parser (o : Opt) : Array Value := #[.bool o.headID, .bool o.del, .bool o.tasks, .bool o.auto_, .bool o.autoHTTP, .bool o.tables, .bool o.emoji, .bool o.dots, .bool o.dashes, .bool o.quotes]
def plainO : Opt := ⟨false, false, false, false, false, false, false, false, false, false⟩

set_option maxRecDepth 20000 in
set_option maxHeartbeats 800000 in
theorem parser_any (o : Opt) (w : World) : Calls Tryz.prog 30 #[o.v] w fun e w' => ∃ g, e = .returned (.pointer (some ⟨g, 0, none⟩)) ∧ w.heap.size ≤ g ∧ Blk w' g 76 o.parser ∧ Below w.heap.size w w' := by
  obtain ⟨o0, o1, o2, o3, o4, o5, o6, o7, o8, o9⟩ := o
  unfold Opt.v
  dsimp only
  go_enter Tryz.func30, Tryz.ntmps30
  go_wp2
  go_ret
  exact ⟨_, rfl, by simp, by simpa [Opt.parser] using Blk.new (w.alloc (.cells #[.bool o0, .bool o1, .bool o2, .bool o3, .bool o4, .bool o5, .bool o6, .bool o7, .bool o8, .bool o9] 27)) 76 #[.bool o8, .bool o0, .bool o1, .bool o2, .bool o3, .bool o4, .bool o9, .bool o5, .bool o6, .bool o7], ((Below.refl _ _).alloc (Nat.le_refl _) _).alloc (by simp) _⟩

set_option maxRecDepth 20000 in
theorem plain_any (w : World) : Calls Tryz.prog 16 #[] w fun e w' => e = .returned plainO.v ∧ Below w.heap.size w w' := by
  go_enter Tryz.func16, Tryz.ntmps16
  go_wp2
  go_returns
  exact ⟨rfl, (Below.refl _ _).alloc (Nat.le_refl _) _⟩



end Go.Proofs.YtmcjhcfhglfmlaaGreatDoor
