/- The top block of the stack is closed: what it builds goes to the one below it. -/
import Derived.Test.YtmcjhcfhglfmlaaGreatDoorDone
namespace Go.Proofs.YtmcjhcfhglfmlaaGreatDoor
open Go.RowKit
theorem own_front {w : World} {B : Nat} {e : TypeId} {size n m cap : Nat} {a : Addr} {xs ys : List Value} (h : w.ownsRow B e size (.slice (some a) n cap) n (xs ++ ys)) (hx : xs.length = m * size) (hm : m ≤ n) : w.ownsRow B e size (.slice (some a) m cap) m xs := by
  refine ⟨hx, .inr ?_⟩
  rcases h.2 with ⟨h0, _⟩ | ⟨g', cap', cur, h0, h1, h2, h3, h4, h5, h6⟩
  · simp at h0
  · simp only [Value.slice.injEq, Option.some.injEq] at h0
    obtain ⟨rfl, _, rfl⟩ := h0
    refine ⟨g', cap, cur, rfl, h1, h2, by omega, h4, h5, ?_⟩
    have e1 : (cur.toList.take (n * size)).take (m * size) = (xs ++ ys).take (m * size) := by rw [h6]
    rw [List.take_take, Nat.min_eq_left (Nat.mul_le_mul_right _ hm)] at e1
    rw [e1, ← hx]
    exact List.take_left' rfl
theorem IsStack.front {w : World} {B sb n cap : Nat} {es fs : List Ent} (h : IsStack w B ⟨some ⟨sb, 0, none⟩, n, cap⟩ (es ++ fs)) : IsStack w B ⟨some ⟨sb, 0, none⟩, es.length, cap⟩ es := by
  refine ⟨rfl, ?_⟩
  have h2 := h.2
  have hn : n = (es ++ fs).length := h.1
  subst hn
  rw [List.flatMap_append] at h2
  exact own_front h2 (ents_len es) (by simp)
/-- What the top block's build hands back, and what it leaves. -/
def BuildP (B g : Nat) (r r' : PSr) (es : List Ent) (e1 e0 : Ent) (bs : List Value) (u : TypeId) (Q : Nat → World → Prop) (e : Ending) (w' : World) : Prop :=
  ∃ k, e = .returned (.iface u (.pointer (some ⟨k, 0, none⟩))) ∧ IsPS w' g r' ∧ r'.stack = r.stack ∧ IsStack w' B r.stack (es ++ [e1] ++ [e0]) ∧ w'.ownsRow B 68 1 e1.inner.v e1.inner.n bs ∧ B ≤ w'.heap.size ∧ Q k w'
def CloseP (B g : Nat) (r r' : PSr) (es : List Ent) (e1 : Ent) (bs : List Value) (u : TypeId) (Q : Nat → World → Prop) (e : Ending) (w' : World) : Prop :=
  ∃ k w1 v st, e = .returned (.iface u (.pointer (some ⟨k, 0, none⟩))) ∧ Q k w1 ∧ IsPS w' g { r' with stack := st } ∧ IsStack w' B st (es ++ [{ e1 with inner := v }]) ∧ st.v.ownBlock = r.stack.v.ownBlock ∧
    v.n = e1.inner.n + 1 ∧ w'.ownsRow B 68 1 v.v v.n (bs ++ [.iface u (.pointer (some ⟨k, 0, none⟩))]) ∧ Mod (fun k => k = g ∨ some k = r.stack.v.ownBlock ∨ some k = e1.inner.v.ownBlock) w1 w'
set_option maxRecDepth 20000 in
set_option maxHeartbeats 4000000 in
theorem close_gen (B g : Nat) (r r' : PSr) (es : List Ent) (e1 e0 : Ent) (bs : List Value) (u : TypeId) (Q : Nat → World → Prop) (f : FuncId) (x : Value) (w : World) (hps : IsPS w g r) (hst : IsStack w B r.stack (es ++ [e1] ++ [e0])) (hn : es.length ≤ 1000000) (hm : e1.inner.n ≤ 1000000)
    (hmeth : ∀ W, (method 475 e0.bt e0.bv "pub-paratext/pub/rscmarkdown.build").run Tryz.prog W = .ok (f, x) W) (hent : ∀ args W, (callFunc f args).run Tryz.prog W = .ok (.enter f args) W)
    (hta : ∀ p W, (Instr.typeAssert (.iface u (.pointer p)) 68 111 true).run Tryz.prog W = .ok (.tuple #[.pointer none, .bool false]) W)
    (hbuild : ∀ n, Calls Tryz.prog f #[x, .iface 116 (.pointer (some ⟨g, 0, none⟩))] (w.drewN n) (BuildP B g r r' es e1 e0 bs u Q)) :
    Calls Tryz.prog 66 #[.pointer (some ⟨g, 0, none⟩)] w (CloseP B g r r' es e1 bs u Q) := by
  obtain ⟨sb, cap, hv, hcap, hfr, hob, hsb, hBs, k0, k1, k2, k3⟩ := hst.top
  have c4 := hps.c4
  rw [hv] at c4
  have HV := hid hv
  have HOB := hid hob
  have HBU := hid hbuild
  clear hv hob hbuild
  simp only [List.length_append, List.length_cons, List.length_nil, Nat.zero_add] at k0 k1 k2 k3 hcap c4
  obtain ⟨i0, hi, hz0, hz1, hz2⟩ := info_parts infoBlock
  go_enter Tryz.func66, Tryz.ntmps66
  go_wp2_with fail
  go_quiet (fail)
  go_wp2_with fail
  refine (HBU.out nq).mono ?_
  rintro e w1 ⟨k, rfl, hps1, hst9, hst1, hin1, hB1, hq⟩
  have f1 := hps1.free
  have d4 := hps1.c4
  have hgl := hps1.lt
  rw [hst9, HV.out] at d4
  have hst1' := hst1
  rw [HV.out] at hst1'
  have hst2 := IsStack.front hst1'
  simp only [List.length_append, List.length_cons, List.length_nil, Nat.zero_add] at hst2
  obtain ⟨cs1, hcs1⟩ := IsStack.blk hst1'
  have hgs : g ≠ sb := Blk.ne_ hps1 hcs1 (by decide)
  have hnb1 : some sb ≠ (Value.slice e1.inner.a e1.inner.n e1.inner.c).ownBlock := own_ne hin1 hcs1 (by decide)
  have hsb1 := Blk.lt hcs1
  obtain ⟨sb3, cap3, hv3, hcap3, hfr3, hob3, hsb3, hBs3, q0, q1, q2, q3⟩ := hst2.top
  simp only [Sl.mk.injEq, Option.some.injEq, Addr.mk.injEq] at hv3
  obtain ⟨⟨rfl, _⟩, _, rfl⟩ := hv3
  have HST9 := hid hst9
  have HST2 := hid hst2
  have HIN1 := hid hin1
  have HPS1 := hid hps1
  have HQ := hid hq
  have HCS1 := hid hcs1
  clear hst9 hst1 hst1' hst2 hin1 hps1 hq hcs1 k0 k1 k2 k3 hfr hob3
  go_wp2_with fail
  go_region
  have hps2 : Hid (IsPS (World.drew _) g { r' with stack := ⟨some ⟨sb, 0, none⟩, es.length + 1, cap⟩ }) := hid ((HPS1.out.set4 (some ⟨sb, 0, none⟩) (es.length + 1) cap).drew)
  have hst3 : Hid (IsStack (World.drew _) B ⟨some ⟨sb, 0, none⟩, es.length + 1, cap⟩ (es ++ [e1])) := hid ((HST2.out.far (p := ⟨g, 4, none⟩) (by rw [show (Sl.mk (some ⟨sb, 0, none⟩) (es.length + 1) cap).v.ownBlock = some sb from rfl]; simpa using hgs) (.slice (some ⟨sb, 0, none⟩) (es.length + 1) cap)).drew)
  have hin2 : Hid (World.ownsRow (World.drew _) B 68 1 (.slice e1.inner.a e1.inner.n e1.inner.c) e1.inner.n bs) := hid (World.ownsRow.drewN (own_far HIN1.out (p := ⟨g, 4, none⟩) (own_ne HIN1.out HPS1.out (by decide)) (.slice (some ⟨sb, 0, none⟩) (es.length + 1) cap)) 1)
  have hm2 : Hid (Mod (fun k => k = g) w1 (World.drew _)) := hid (((Mod.refl (fun k => k = g) w1).setCell (p := ⟨g, 4, none⟩) (.inl rfl) (.slice (some ⟨sb, 0, none⟩) (es.length + 1) cap)).drew)
  clear q0 q1 q2 q3 d4 f1
  generalize World.drew _ = wa at hps2 hst3 hin2 hm2 ⊢
  have d4 := hps2.out.c4
  obtain ⟨sb', cap', hv', hcap', hfr', hob', hsb', hBs', q0, q1, q2, q3⟩ := hst3.out.top
  simp only [Sl.mk.injEq, Option.some.injEq, Addr.mk.injEq] at hv'
  obtain ⟨⟨rfl, _⟩, _, rfl⟩ := hv'
  have HOB2 := hid hob'
  clear hob' q0 q2 q3
  go_wp2_with fail
  go_quiet (fail)
  have hcl : ∀ j u', ([.iface u (.pointer (some ⟨k, 0, none⟩))] : List Value)[j]? = some u' → ((wa.drewN nq).alloc (.cells #[.iface u (.pointer (some ⟨k, 0, none⟩))] 68)).cell? ((⟨wa.heap.size, 0, none⟩ : Addr).add j) = some u' := by
    intro j u' hj
    cases j with
    | zero => rw [Addr.add, if_pos rfl]; exact ((Blk.new (wa.drewN nq) 68 #[.iface u (.pointer (some ⟨k, 0, none⟩))]).cell 0).trans hj
    | succ j => simp at hj
  have HCL := hid hcl
  clear hcl
  go_wp2_with (at_builtin; refine wpList_append_own_at _ rfl (.tmp 106) (.tmp 108) 119 rfl B 68 i0 _ 1 16 Tryz.underlying119 hi hz0 hz1 hz2 rfl (by decide) (.slice e1.inner.a e1.inner.n e1.inner.c) e1.inner.n bs rfl (World.ownsRow.alloc (World.ownsRow.drewN hin2.out nq) _) ⟨wa.heap.size, 0, none⟩ 1 1 [.iface u (.pointer (some ⟨k, 0, none⟩))] rfl rfl HCL.out ?_ ?_ ?_ ?_ ?_)
  · intro v hv; simp at hv; subst hv; rfl
  · unfold maxLen; omega
  · omega
  · simp; exact Nat.le_succ_of_le (Nat.le_trans hB1 hm2.out.size)
  · intro v' w2 hown hgr hnil hat
    have hnb : some sb ≠ (Value.slice e1.inner.a e1.inner.n e1.inner.c).ownBlock := hnb1
    have hps3 : IsPS w2 g { r' with stack := ⟨some ⟨sb, 0, none⟩, es.length + 1, cap⟩ } := Blk.grown ((hps2.out.drewN nq).alloc _) hgr (own_ne hin2.out hps2.out (by decide))
    have hm3 : Mod (fun k => some k = e1.inner.v.ownBlock) wa w2 := (((Mod.refl _ wa).drewN nq).alloc _).grown hgr (fun k hk => .inl hk.symm)
    have hst4 : IsStack w2 B ⟨some ⟨sb, 0, none⟩, es.length + 1, cap⟩ (es ++ [e1]) := hst3.out.mod hm3 (fun k hk e => by rw [HOB2.out] at hk; cases hk; exact hnb e)
    obtain ⟨g2, cap2, rfl, hc2⟩ : ∃ g2 cap2, v' = .slice (some ⟨g2, 0, none⟩) (e1.inner.n + 1) cap2 ∧ e1.inner.n + 1 ≤ cap2 := by
      rcases hown.2 with ⟨h1, h2⟩ | ⟨g2, cap2, cur, h1, _, _, h2, _⟩
      · exact absurd h2 (by omega)
      · exact ⟨g2, cap2, h1, h2⟩
    obtain ⟨_, _, hvx, _, hfrx, _, _, _, _, y1, _, _⟩ := hst4.top
    simp only [Sl.mk.injEq, Option.some.injEq, Addr.mk.injEq] at hvx
    obtain ⟨⟨rfl, _⟩, _, rfl⟩ := hvx
    have hszw : w1.heap.size ≤ wa.heap.size := hm2.out.size
    have hg2 : sb ≠ g2 := by
      rintro rfl
      rcases hat with h | h
      · exact hnb h
      · have : sb = wa.heap.size + 1 := by simpa [Value.ownBlock] using h
        omega
    have hg2' : some g2 = e1.inner.v.ownBlock ∨ w1.heap.size ≤ g2 := by
      rcases hat with h | h
      · exact .inl h
      · have : g2 = wa.heap.size + 1 := by simpa [Value.ownBlock] using h
        exact .inr (by omega)
    have HO := hid hown
    have HM := hid hm3
    have HST := hid hst4
    have HP3 := hid hps3
    have HG := hid hg2'
    clear hown hgr hat hm3 hst4 hps3 hg2' q1 d4
    go_wp2_with fail
    go_ret
    refine ⟨k, w1, ⟨some ⟨g2, 0, none⟩, e1.inner.n + 1, cap2⟩, ⟨some ⟨sb, 0, none⟩, es.length + 1, cap⟩, rfl, HQ.out, HP3.out.far hgs _, ⟨?_, ?_⟩, ?_, rfl, ?_, ?_⟩
    · simp
    · have s0 := HST.out.2
      rw [show (es ++ [e1]).length = es.length + 1 by simp] at s0
      have s1 := (s0.stored (es.length * 4 + 1) (.slice (some ⟨g2, 0, none⟩) (e1.inner.n + 1) cap2)).1
      rw [List.flatMap_append] at s1 ⊢
      simp only [List.flatMap_cons, List.flatMap_nil, List.append_nil, Ent.cells, List.length_append, List.length_cons, List.length_nil] at s1 ⊢
      rw [set_inner _ _ _ _ _ _ _ (ents_len es)] at s1
      exact s1
    · rw [HOB.out]; rfl
    · refine own_far HO.out ?_ _
      simpa [Value.ownBlock] using hg2
    · have m0 : Mod (fun k => k = g ∨ some k = r.stack.v.ownBlock ∨ some k = e1.inner.v.ownBlock) w1 w2 := (hm2.out.mono (fun k _ h => .inl h)).trans HM.out (fun k _ h => .inr (.inr h))
      refine m0.setCell (.inl (.inr (.inl ?_))) _
      rw [HOB.out]
end Go.Proofs.YtmcjhcfhglfmlaaGreatDoor
