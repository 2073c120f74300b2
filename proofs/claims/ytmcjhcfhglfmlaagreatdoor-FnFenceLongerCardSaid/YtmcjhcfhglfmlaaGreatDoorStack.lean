/- Contracts of the functions on the stack of open blocks, and of the root. -/
import Derived.Test.YtmcjhcfhglfmlaaGreatDoorPs
import Derived.Test.YtmcjhcfhglfmlaaGreatDoorStr
namespace Go.Proofs.YtmcjhcfhglfmlaaGreatDoor
open Go.RowKit
theorem trimStack_none (g : Nat) (r : PSr) (w : World) (d : Int) (h : IsPS w g r) (hd : d = r.stack.n) :
    Calls Tryz.prog 58 #[.pointer (some ⟨g, 0, none⟩), .int .i64 d] w fun e w' => e = .returned (.tuple #[]) ∧ w = w' := by
  subst hd
  have c4 := h.c4
  have b1 : ((r.stack.n : Int) < (r.stack.n : Int)) = False := by simp
  go_enter Tryz.func58, Tryz.ntmps58
  go_wp2
  go_rounds 1
  go_end0
  exact ⟨rfl, rfl⟩

set_option maxRecDepth 20000 in
set_option maxHeartbeats 1600000 in
theorem addBlock_top (B g : Nat) (r : PSr) (es : List Ent) (w : World) (u : TypeId) (x : Value) (hB : B ≤ w.heap.size) (hps : IsPS w g r) (hst : IsStack w B r.stack es) (hd : r.lineDepth + 1 = es.length) (hn : es.length ≤ 1000000) :
    Calls Tryz.prog 55 #[.pointer (some ⟨g, 0, none⟩), .iface u x] w fun e w' => e = .returned (.tuple #[]) ∧
      ∃ v, IsPS w' g { r with stack := v } ∧ IsStack w' B v (es ++ [⟨u, x, Sl.nil, r.lineno, r.lineno⟩]) ∧ (∀ k, v.v.ownBlock = some k → r.stack.v.ownBlock = some k ∨ w.heap.size ≤ k) ∧ Mod (fun k => k = g ∨ some k = r.stack.v.ownBlock) w w' := by
  obtain ⟨hn0, hst⟩ := hst
  have c4 := hps.c4
  have c5 := hps.c5
  have hl0 : -1 ≤ r.lineDepth := by omega
  have hl1 : r.lineDepth ≤ 1000000 := by omega
  have HD := hid (show r.lineDepth + 1 = r.stack.n by rw [hn0]; exact hd)
  have HN := hid hn0
  have hn1 : r.stack.n ≤ 1000000 := by omega
  clear hd hn0
  obtain ⟨i0, hi, hz0, hz1, hz2⟩ := info_parts info192
  have hcells : ∀ j u, ([.nilIface, .slice none 0 0, .int .i64 0, .int .i64 0] : List Value)[j]? = some u → (w.alloc (.cells #[.nilIface, .slice none 0 0, .int .i64 0, .int .i64 0] 121)).cell? ((⟨w.heap.size, 0, none⟩ : Addr).add j) = some u := by
    intro j u hj
    rw [Addr.add]
    have := (Blk.new w 121 #[.nilIface, .slice none 0 0, .int .i64 0, .int .i64 0]).cell j
    split
    · rename_i h0; subst h0; rw [this]; exact hj
    · rw [show (0 + j) = j from by omega, this]; simpa using hj
  have HCL := hid hcells
  clear hcells
  have hst' : w.ownsRow B 121 4 (.slice r.stack.a r.stack.n r.stack.c) r.stack.n (es.flatMap Ent.cells) := by have := hst; rw [← HN.out] at this; exact this
  have HST := hid hst'
  clear hst'
  go_enter Tryz.func55, Tryz.ntmps55
  go_wp2_with (first | (go_at_call 58; refine (trimStack_none g r w _ hps HD.out).mono ?_; rintro e w' ⟨rfl, rfl⟩) | (at_builtin; refine wpList_append_own_at _ rfl (.tmp 16) (.tmp 18) 87 rfl B 121 i0 _ 4 56 Tryz.underlying87 hi hz0 hz1 hz2 rfl (by decide) (.slice r.stack.a r.stack.n r.stack.c) r.stack.n (es.flatMap Ent.cells) rfl (World.ownsRow.alloc HST.out _) ⟨w.heap.size, 0, none⟩ 1 1 [.nilIface, .slice none 0 0, .int .i64 0, .int .i64 0] rfl rfl HCL.out ?_ ?_ ?_ ?_ ?_))
  · intro u hu; simp at hu; rcases hu with rfl | rfl | rfl | rfl <;> rfl
  · unfold maxLen; omega
  · omega
  · simp; omega
  · intro v' w1 hown hgr hnil hat
    have hne : some g ≠ (Value.slice r.stack.a r.stack.n r.stack.c).ownBlock := own_ne hst hps (by decide)
    have hps1 : IsPS w1 g r := Blk.grown (Blk.alloc hps _) hgr hne
    have hne1 : some g ≠ v'.ownBlock := own_ne hown hps1 (by decide)
    obtain ⟨sb, cap', rfl, hsb⟩ : ∃ sb cap', v' = .slice (some ⟨sb, 0, none⟩) (r.stack.n + 1) cap' ∧ r.stack.n + 1 ≤ cap' := by
      rcases hown.2 with ⟨h1, h2⟩ | ⟨sb, cap', cur, h1, _, _, h2, _⟩
      · exact absurd h2 (by omega)
      · exact ⟨sb, cap', h1, h2⟩
    have hgs : g ≠ sb := fun e => hne1 (by simp [Value.ownBlock, e])
    have hsg : sb ≠ g := fun e => hgs e.symm
    have f1 := hps1.free
    have f2 := hown.frozenAt
    have d3 := hps1.c3
    have d4 := hps1.c4
    have hlen : (es.flatMap Ent.cells).length = r.stack.n * 4 := HST.out.1
    have k0 : w1.cell? ⟨sb, r.stack.n * 4, none⟩ = some .nilIface := by rw [hown.cellAt _ (by omega), List.getElem?_append_right (by omega), hlen]; simp
    have k2 : w1.cell? ⟨sb, r.stack.n * 4 + 2, none⟩ = some (.int .i64 0) := by rw [hown.cellAt _ (by omega), List.getElem?_append_right (by omega), hlen]; simp
    have k3 : w1.cell? ⟨sb, r.stack.n * 4 + 3, none⟩ = some (.int .i64 0) := by rw [hown.cellAt _ (by omega), List.getElem?_append_right (by omega), hlen]; simp
    have HLEN := hid hlen
    clear hlen
    have HO := hid hown
    have HG := hid hgr
    have HA := hid hat
    clear hown hgr hat
    go_wp2
    go_quiet (fail)
    go_wp2
    go_end0
    refine ⟨rfl, ⟨some ⟨sb, 0, none⟩, r.stack.n + 1, cap'⟩, ((((hps1.set4 _ _ _).drewN nq).far hgs _).far hgs _).far hgs _, ⟨by simp [HN.out], ?_⟩, ?_, ?_⟩
    · have s0 := World.ownsRow.drewN (own_far (p := ⟨g, 4, none⟩) HO.out hne1 (Value.slice (some ⟨sb, 0, none⟩) (r.stack.n + 1) cap')) nq
      have s1 := (((s0.stored (r.stack.n * 4) (.iface u x)).1.stored (r.stack.n * 4 + 2) (.int .i64 r.lineno)).1.stored (r.stack.n * 4 + 2 + 1) (.int .i64 r.lineno)).1
      rw [set4_snoc _ _ _ _ _ _ _ _ _ HLEN.out] at s1
      rw [List.flatMap_append, List.length_append]
      simp only [List.length_cons, List.length_nil, ← HN.out]
      exact s1
    · intro k hk
      rcases HA.out with h | h
      · exact .inl (h ▸ hk)
      · have hk' : (Value.slice (some ⟨sb, 0, none⟩) (r.stack.n + 1) cap').ownBlock = some k := hk
        rw [h] at hk'; cases hk'; exact .inr (by omega)
    · have m0 : Mod (fun k => k = g ∨ some k = r.stack.v.ownBlock) w w1 := ((Mod.refl _ w).alloc _).grown HG.out (fun k hk => .inl (.inr hk.symm))
      have hsb' : (sb = g ∨ some sb = r.stack.v.ownBlock) ∨ w.heap.size ≤ sb := by
        rcases HA.out with h | h
        · exact .inl (.inr h)
        · have : sb = w.heap.size + 1 := by simpa [Value.ownBlock] using h
          exact .inr (by omega)
      exact ((((m0.setCell (.inl (.inl rfl)) _).drewN nq).setCell hsb' _).setCell hsb' _).setCell hsb' _

set_option maxRecDepth 20000 in
set_option maxHeartbeats 1600000 in
theorem blocks_any (B g : Nat) (r : PSr) (es : List Ent) (e0 : Ent) (w : World) (hps : IsPS w g r) (hst : IsStack w B r.stack (es ++ [e0])) (hn : es.length ≤ 1000000) :
    Calls Tryz.prog 254 #[.pointer (some ⟨g, 0, none⟩)] w fun e w' => e = .returned (.slice e0.inner.a e0.inner.n e0.inner.c) ∧ ∃ n, w' = w.drewN n := by
  obtain ⟨sb, cap, hv, hcap, hfr, hob, hsb, hBs, k0, k1, k2, k3⟩ := hst.top
  have c4 := hps.c4
  rw [hv] at c4
  have HV := hid hv
  have HOB := hid hob
  clear hv hob
  go_enter Tryz.func254, Tryz.ntmps254
  go_wp2
  go_quiet (fail)
  go_wp2
  go_ret
  exact ⟨rfl, _, rfl⟩

set_option maxRecDepth 20000 in
set_option maxHeartbeats 1600000 in
theorem pos_any (B g : Nat) (r : PSr) (es : List Ent) (e0 : Ent) (w : World) (hps : IsPS w g r) (hst : IsStack w B r.stack (es ++ [e0])) (hn : es.length ≤ 1000000) :
    Calls Tryz.prog 255 #[.pointer (some ⟨g, 0, none⟩)] w fun e w' => e = .returned (.agg #[.int .i64 e0.sl, .int .i64 e0.el]) ∧ Below w.heap.size w w' := by
  obtain ⟨sb, cap, hv, hcap, hfr, hob, hsb, hBs, k0, k1, k2, k3⟩ := hst.top
  have c4 := hps.c4
  rw [hv] at c4
  have hg := hps.lt
  have HV := hid hv
  have HOB := hid hob
  clear hv hob
  go_enter Tryz.func255, Tryz.ntmps255
  go_wp2
  go_quiet (fail)
  go_wp2
  go_returns
  exact ⟨rfl, ((below_drewN ((Below.refl _ _).alloc (Nat.le_refl _) _) nq).setCell (Nat.le_refl _) _).setCell (Nat.le_refl _) _⟩

theorem ta_ps (p : Option Addr) (w : World) : (Instr.typeAssert (.iface 116 (.pointer p)) 343 116 false).run Tryz.prog w = .ok (.pointer p) w := by kernel_rfl
set_option maxRecDepth 20000 in
set_option maxHeartbeats 1600000 in
theorem rootBuild_any (B g : Nat) (r : PSr) (es : List Ent) (e0 : Ent) (w : World) (x : Value) (hps : IsPS w g r) (hst : IsStack w B r.stack (es ++ [e0])) (hn : es.length ≤ 1000000) :
    Calls Tryz.prog 242 #[x, .iface 116 (.pointer (some ⟨g, 0, none⟩))] w fun e w' => ∃ d, e = .returned (.iface 45 (.pointer (some ⟨d, 0, none⟩))) ∧ w.heap.size ≤ d ∧ Blk w' d 339 #[.int .i64 e0.sl, .int .i64 e0.el, e0.inner.v, .map r.links] ∧ Below w.heap.size w w' := by
  have c2 := hps.c2
  have hg := hps.lt
  have ta := ta_ps
  go_enter Tryz.func242, Tryz.ntmps242
  go_wp2
  go_region_held3 (fun w' => IsPS w' g r ∧ IsStack w' B r.stack (es ++ [e0]) ∧ w'.cell? ⟨g, 2, none⟩ = some (.map r.links) ∧ Below w.heap.size w w')
    (first
      | exact ⟨hps.drew, hst.drew, c2, (Below.refl _ _).drew⟩
      | (go_split_ands; exact ⟨IsPS.below (by assumption) hb, IsStack.below (by assumption) hb, (IsPS.below (by assumption) hb).c2, Below.trans (by assumption) (hb.mono (Below.size (by assumption)))⟩)
      | (go_split_ands; exact ⟨IsPS.drewN (by assumption) _, IsStack.drewN (by assumption) _, (IsPS.drewN (by assumption) _).c2, below_drewN (by assumption) _⟩)
      | (go_split_ands; exact ⟨IsPS.alloc (by assumption) _, IsStack.alloc (by assumption) _, (IsPS.alloc (by assumption) _).c2, Below.alloc (by assumption) (Below.size (by assumption)) _⟩))
    (first
      | (go_at_call 254; (try go_split_ands); refine (blocks_any B g r es e0 _ (by assumption) (by assumption) hn).mono ?_; rintro e w1 ⟨rfl, n, rfl⟩)
      | (go_at_call 255; (try go_split_ands); refine (pos_any B g r es e0 _ (by assumption) (by assumption) hn).mono ?_; rintro e w1 ⟨rfl, hb⟩))
  all_goals go_wp2
  all_goals go_ret
  all_goals
    obtain ⟨_, _, _, hB⟩ := ‹IsPS _ g r ∧ _ ∧ _ ∧ Below w.heap.size w _›
    have hz := (‹Below w.heap.size w w1›).size
    exact ⟨_, rfl, hz, Blk.new _ _ _, hB⟩

theorem ta_35_63 (p : Option Addr) (w : World) : (Instr.typeAssert (.iface 45 (.pointer p)) 68 111 true).run Tryz.prog w = .ok (.tuple #[.pointer none, .bool false]) w := by kernel_rfl
theorem ta_35_35 (p : Option Addr) (w : World) : (Instr.typeAssert (.iface 45 (.pointer p)) 68 45 false).run Tryz.prog w = .ok (.pointer p) w := by kernel_rfl
def CloseRootP (g : Nat) (r : PSr) (inner : Sl) (sl el : Int) (w : World) (e : Ending) (w' : World) : Prop :=
  ∃ d st, e = .returned (.iface 45 (.pointer (some ⟨d, 0, none⟩))) ∧ w.heap.size ≤ d ∧ st.n = 0 ∧ IsPS w' g { r with root := some ⟨d, 0, none⟩, stack := st } ∧ Blk w' d 339 #[.int .i64 sl, .int .i64 el, inner.v, .map r.links] ∧ Mod (fun k => k = g) w w'
set_option maxRecDepth 20000 in
set_option maxHeartbeats 1600000 in
theorem closeRoot_any (B g : Nat) (r : PSr) (a : Option Addr) (inner : Sl) (sl el : Int) (w : World) (hps : IsPS w g r) (hst : IsStack w B r.stack ([] ++ [⟨98, .pointer a, inner, sl, el⟩])) :
    Calls Tryz.prog 66 #[.pointer (some ⟨g, 0, none⟩)] w (CloseRootP g r inner sl el w) := by
  obtain ⟨sb, cap, hv, hcap, hfr, hob, hsb, hBs, k0, k1, k2, k3⟩ := hst.top
  have c4 := hps.c4
  rw [hv] at c4
  have hg := hps.lt
  have HV := hid hv
  have HOB := hid hob
  clear hv hob
  have ta1 := ta_35_63
  have ta2 := ta_35_35
  simp only [List.length_nil, Nat.zero_mul, Nat.zero_add] at k0 k1 k2 k3 hcap c4
  go_enter Tryz.func66, Tryz.ntmps66
  go_wp2_with fail
  go_quiet (fail)
  go_wp2_with (go_at_call 242; refine (rootBuild_any B g r [] _ _ _ (by assumption) (by assumption) (by simp)).mono ?_; rintro e w1 ⟨d, rfl, hd, hblk, hb⟩)
  have hb' : Below w.heap.size w w1 := (below_drewN (Below.refl _ _) nq).trans hb
  have hps1 := hps.below (w' := w1) hb'
  have f1 := hps1.free
  have d4 := hps1.c4
  have d1 := hps1.c1
  rw [HV.out] at d4
  have HBL := hid hblk
  have HBB := hid hb'
  clear hblk hb hb'
  have hdg : d ≠ g := fun e => by subst e; have := hd; simp at this; omega
  go_region
  all_goals go_wp2
  all_goals go_ret
  refine ⟨d, _, rfl, hd, rfl, (hps1.set4 _ _ _).set1 _, (HBL.out.far hdg _).far hdg _, (((Mod.below' (S := fun k => k = g) HBB.out).setCell (.inl rfl) _).setCell (.inl rfl) _).drew⟩

set_option maxRecDepth 20000 in
set_option maxHeartbeats 1600000 in
/-- trimStack of the root alone. -/
theorem trimRoot_any (B g : Nat) (r : PSr) (a : Option Addr) (inner : Sl) (sl el : Int) (w : World) (hps : IsPS w g r) (hst : IsStack w B r.stack ([] ++ [⟨98, .pointer a, inner, sl, el⟩])) :
    Calls Tryz.prog 58 #[.pointer (some ⟨g, 0, none⟩), .int .i64 0] w fun e w' => e = .returned (.tuple #[]) ∧ ∃ d st, w.heap.size ≤ d ∧ IsPS w' g { r with root := some ⟨d, 0, none⟩, stack := st } ∧ Blk w' d 339 #[.int .i64 sl, .int .i64 el, inner.v, .map r.links] ∧ Mod (fun k => k = g) w w' := by
  obtain ⟨sb, cap, hv, hcap, hfr, hob, hsb, hBs, k0, k1, k2, k3⟩ := hst.top
  have c4 := hps.c4
  rw [hv] at c4
  simp only [List.length_nil, Nat.zero_add] at c4
  go_enter Tryz.func58, Tryz.ntmps58
  go_wp2
  refine wp_loop_rounds 2 ?_
  rw [rounds_succ]
  go_wp2_with (go_at_call 66; refine (closeRoot_any B g r a inner sl el _ hps hst).mono ?_; rintro e w1 ⟨d, st, rfl, hd, hst0, hps1, hblk, hm⟩; have d4 := hps1.c4; rw [hst0] at d4; have HM := hid hm; have HBL := hid hblk; clear hm hblk)
  rw [rounds_succ]
  go_wp2
  go_end0
  exact ⟨rfl, d, st, hd, hps1, HBL.out, HM.out⟩


end Go.Proofs.YtmcjhcfhglfmlaaGreatDoor
