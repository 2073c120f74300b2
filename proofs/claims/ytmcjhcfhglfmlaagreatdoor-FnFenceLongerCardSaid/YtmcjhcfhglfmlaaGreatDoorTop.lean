/- The stack's top: what comes next, and whether it is a paragraph. -/
import Derived.Test.YtmcjhcfhglfmlaaGreatDoorStack
import Derived.Test.YtmcjhcfhglfmlaaGreatDoorDecline2
namespace Go.Proofs.YtmcjhcfhglfmlaaGreatDoor
open Go.RowKit
set_option maxHeartbeats 800000 in
theorem nextB_top (g : Nat) (r : PSr) (w : World) (hps : IsPS w g r) (hd : r.lineDepth = (r.stack.n : Int) - 1) (hn : r.stack.n ≤ 1000000) :
    Calls Tryz.prog 136 #[.pointer (some ⟨g, 0, none⟩)] w fun e w' => e = .returned .nilIface ∧ ∃ n, w' = w.drewN n := by
  have c4 := hps.c4
  have c5 := hps.c5
  rw [hd] at c5
  clear hd
  go_enter Tryz.func136, Tryz.ntmps136
  go_wp2
  go_quiet (fail)
  go_wp2
  go_ret
  exact ⟨rfl, _, rfl⟩
theorem ta_root_para (p : Option Addr) (w : World) : (Instr.typeAssert (.iface 98 (.pointer p)) 118 162 true).run Tryz.prog w = .ok (.tuple #[.pointer none, .bool false]) w := by kernel_rfl
set_option maxHeartbeats 1600000 in
theorem para_top (B g : Nat) (r : PSr) (es : List Ent) (e0 : Ent) (p : Option Addr) (w : World) (hps : IsPS w g r) (hst : IsStack w B r.stack (es ++ [e0])) (hn : es.length ≤ 1000000) (hb : e0.bt = 98) (hb2 : e0.bv = .pointer p) :
    Calls Tryz.prog 96 #[.pointer (some ⟨g, 0, none⟩)] w fun e w' => e = .returned (.pointer none) ∧ ∃ n, w' = w.drewN n := by
  obtain ⟨sb, cap, hv, hcap, hfr, hob, hsb, hBs, k0, k1, k2, k3⟩ := hst.top
  have c4 := hps.c4
  rw [hv] at c4
  rw [hb, hb2] at k0
  have ta := ta_root_para p
  have HV := hid hv
  have HOB := hid hob
  clear hv hob
  go_enter Tryz.func96, Tryz.ntmps96
  go_wp2
  go_quiet (fail)
  go_wp2
  go_ret
  exact ⟨rfl, _, rfl⟩
end Go.Proofs.YtmcjhcfhglfmlaaGreatDoor
