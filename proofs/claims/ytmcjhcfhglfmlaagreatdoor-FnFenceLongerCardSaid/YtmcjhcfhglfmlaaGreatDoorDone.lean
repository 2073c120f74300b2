/- A block that is done goes to the top of the stack; a thematic break is such a block. -/
import Derived.Test.YtmcjhcfhglfmlaaGreatDoorStack
import Derived.Test.YtmcjhcfhglfmlaaGreatDoorHR
import Derived.Test.YtmcjhcfhglfmlaaGreatDoorDecline
namespace Go.Proofs.YtmcjhcfhglfmlaaGreatDoor
open Go.RowKit
set_option maxHeartbeats 800000 in
theorem string_any (g i : Nat) (tb nl : Int) (s : ByteArray) (w : World) (h : IsLn w g i tb s nl) (_ : s.size ≤ 140737488355328) (_ : i ≤ s.size) :
    Calls Tryz.prog 129 #[.pointer (some ⟨g, 0, none⟩)] w fun e w' => e = .returned (.string (s.extract i s.size)) ∧ ∃ n, w' = w.drewN n := by
  have h0 := h.c0
  have h1 := h.c1
  have h3 := h.c3
  clear h
  go_enter Tryz.func129, Tryz.ntmps129
  go_wp2
  go_quiet (fail)
  go_wp2
  go_ret
  exact ⟨rfl, _, rfl⟩
theorem infoBlock : (Tryz.prog.info? 68).map (fun i => (i.zero, i.size, i.bytes)) = some (some .nilIface, 1, 16) := by kernel_rfl
theorem IsStack.blk {w : World} {B sb n cap : Nat} {es : List Ent} (h : IsStack w B ⟨some ⟨sb, 0, none⟩, n, cap⟩ es) : ∃ cs, Blk w sb 121 cs := by
  rcases h.2.2 with ⟨h0, _⟩ | ⟨g', cap', cur, h0, _, hh, _⟩
  · simp [Sl.v] at h0
  · simp only [Sl.v, Value.slice.injEq, Option.some.injEq, Addr.mk.injEq] at h0
    obtain ⟨⟨rfl, _⟩, _⟩ := h0
    exact ⟨_, hh⟩
theorem set_inner (l : List Value) (n : Nat) (a b c d b' : Value) (h : l.length = n) : (l ++ [a, b, c, d]).set (n + 1) b' = l ++ [a, b', c, d] := by
  subst h
  rw [List.set_append_right _ _ (by omega)]
  simp
def DoneP (B g : Nat) (r : PSr) (es : List Ent) (e0 : Ent) (bs : List Value) (y : Value) (w w' : World) : Prop :=
  ∃ v : Sl, v.n = e0.inner.n + 1 ∧ IsPS w' g r ∧ IsStack w' B r.stack (es ++ [{ e0 with inner := v }]) ∧ w'.ownsRow B 68 1 v.v v.n (bs ++ [y]) ∧ Mod (fun k => some k = r.stack.v.ownBlock ∨ some k = e0.inner.v.ownBlock) w w'
set_option maxRecDepth 20000 in
set_option maxHeartbeats 1600000 in
theorem doneBlock_top (B g : Nat) (r : PSr) (es : List Ent) (e0 : Ent) (w : World) (u : TypeId) (x : Value) (bs : List Value) (hB : B ≤ w.heap.size) (hps : IsPS w g r) (hst : IsStack w B r.stack (es ++ [e0])) (hd : r.lineDepth = es.length) (hn : es.length ≤ 1000000)
    (hin : w.ownsRow B 68 1 e0.inner.v e0.inner.n bs) (hm : e0.inner.n ≤ 1000000) :
    Calls Tryz.prog 134 #[.pointer (some ⟨g, 0, none⟩), .iface u x] w fun e w' => e = .returned (.tuple #[]) ∧ DoneP B g r es e0 bs (.iface u x) w w' := by
  obtain ⟨sb, cap, hv, hcap, hfr, hob, hsb, hBs, k0, k1, k2, k3⟩ := hst.top
  have c4 := hps.c4
  have c5 := hps.c5
  rw [hv] at c4
  rw [hd] at c5
  have HTN := hid (show (es.length : Int) + 1 = r.stack.n by rw [hv]; simp)
  have HV := hid hv
  have HOB := hid hob
  clear hv hob hd
  obtain ⟨i0, hi, hz0, hz1, hz2⟩ := info_parts infoBlock
  have HIN := hid hin
  clear hin
  go_enter Tryz.func134, Tryz.ntmps134
  go_wp2_with fail
  refine (trimStack_none g r w _ hps HTN.out).mono ?_
  rintro e w1 ⟨rfl, rfl⟩
  go_wp2_with fail
  go_quiet (fail)
  have hcl : ∀ j u', ([.iface u x] : List Value)[j]? = some u' → ((w.drewN nq).alloc (.cells #[.iface u x] 68)).cell? ((⟨w.heap.size, 0, none⟩ : Addr).add j) = some u' := by
    intro j u' hj
    cases j with
    | zero => rw [Addr.add, if_pos rfl]; exact ((Blk.new (w.drewN nq) 68 #[.iface u x]).cell 0).trans hj
    | succ j => simp at hj
  have HCL := hid hcl
  clear hcl
  go_wp2_with (at_builtin; refine wpList_append_own_at _ rfl (.tmp 27) (.tmp 29) 119 rfl B 68 i0 _ 1 16 Tryz.underlying119 hi hz0 hz1 hz2 rfl (by decide) (.slice e0.inner.a e0.inner.n e0.inner.c) e0.inner.n bs rfl (World.ownsRow.alloc (World.ownsRow.drewN HIN.out nq) _) ⟨w.heap.size, 0, none⟩ 1 1 [.iface u x] rfl rfl HCL.out ?_ ?_ ?_ ?_ ?_)
  · intro v hv; simp at hv; subst hv; rfl
  · unfold maxLen; omega
  · omega
  · simp; omega
  · intro v' w1 hown hgr hnil hat
    obtain ⟨cs, hcs⟩ := IsStack.blk (HV.out ▸ hst)
    have hnb : some sb ≠ (Value.slice e0.inner.a e0.inner.n e0.inner.c).ownBlock := own_ne HIN.out hcs (by decide)
    have hps1 : IsPS w1 g r := Blk.grown ((hps.drewN nq).alloc _) hgr (own_ne HIN.out hps (by decide))
    have hm1 : Mod (fun k => some k = e0.inner.v.ownBlock) w w1 := (((Mod.refl _ w).drewN nq).alloc _).grown hgr (fun k hk => .inl hk.symm)
    have hst1 : IsStack w1 B r.stack (es ++ [e0]) := hst.mod hm1 (fun k hk e => by rw [HOB.out] at hk; cases hk; exact hnb e)
    obtain ⟨sb', cap', hv', hcap', hfr', hob', hsb', hBs', q0, q1, q2, q3⟩ := hst1.top
    have hvv := hv'.symm.trans HV.out
    simp only [Sl.mk.injEq, Option.some.injEq, Addr.mk.injEq] at hvv
    obtain ⟨⟨rfl, _⟩, _, rfl⟩ := hvv
    have hsg : g ≠ sb' := Blk.ne_ hps hcs (by decide)
    obtain ⟨g2, cap2, rfl, hc2⟩ : ∃ g2 cap2, v' = .slice (some ⟨g2, 0, none⟩) (e0.inner.n + 1) cap2 ∧ e0.inner.n + 1 ≤ cap2 := by
      rcases hown.2 with ⟨h1, h2⟩ | ⟨g2, cap2, cur, h1, _, _, h2, _⟩
      · exact absurd h2 (by omega)
      · exact ⟨g2, cap2, h1, h2⟩
    have hg2 : sb' ≠ g2 := by
      rintro rfl
      rcases hat with h | h
      · exact hnb h
      · have : sb' = w.heap.size + 1 := by simpa [Value.ownBlock] using h
        omega
    have hg2' : some g2 = e0.inner.v.ownBlock ∨ w.heap.size ≤ g2 := by
      rcases hat with h | h
      · exact .inl h
      · have : g2 = w.heap.size + 1 := by simpa [Value.ownBlock] using h
        exact .inr (by omega)
    have HO := hid hown
    have HM := hid hm1
    have HST := hid hst1
    have HPS := hid hps1
    have HC := hid hcs
    have HG := hid hg2'
    clear hown hgr hat hm1 hst1 hps1 hcs hg2' k0 k1 k2 k3 hfr hv' hob'
    go_wp2
    go_end0
    refine ⟨rfl, ⟨some ⟨g2, 0, none⟩, e0.inner.n + 1, cap2⟩, rfl, HPS.out.far hsg _, ⟨?_, ?_⟩, ?_, ?_⟩
    · simp [HV.out]
    · have s0 := HST.out.2
      rw [HV.out, show (es ++ [e0]).length = es.length + 1 by simp] at s0
      rw [HV.out]
      have s1 := (s0.stored (es.length * 4 + 1) (.slice (some ⟨g2, 0, none⟩) (e0.inner.n + 1) cap2)).1
      rw [List.flatMap_append] at s1 ⊢
      simp only [List.flatMap_cons, List.flatMap_nil, List.append_nil, Ent.cells, List.length_append, List.length_cons, List.length_nil] at s1 ⊢
      rw [set_inner _ _ _ _ _ _ _ (ents_len es)] at s1
      exact s1
    · refine own_far HO.out ?_ _
      simpa [Value.ownBlock] using hg2
    · refine (HM.out.mono (fun k _ h => .inr h)).setCell (.inl (.inl ?_)) _
      rw [HOB.out]
theorem line_zero {w : World} {g : Nat} {a0 a1 a2 a3 a4 : Value} (h : Blk w g 104 #[a0, a1, a2, a3, a4]) : Blk (((((w.setCell ⟨g, 0, none⟩ (.int .i64 0)).setCell ⟨g, 1, none⟩ (.int .i64 0)).setCell ⟨g, 2, none⟩ (.int .i64 0)).setCell ⟨g, 3, none⟩ (.string ⟨#[]⟩)).setCell ⟨g, 4, none⟩ (.int .u8 0)) g 104 #[.int .i64 0, .int .i64 0, .int .i64 0, .string ⟨#[]⟩, .int .u8 0] := by
  have h' := (((((Blk.set_ h 0 (.int .i64 0)).set_ 1 (.int .i64 0)).set_ 2 (.int .i64 0)).set_ 3 (.string ⟨#[]⟩)).set_ 4 (.int .u8 0))
  simpa using h'
def HRP (B g : Nat) (r : PSr) (es : List Ent) (e0 : Ent) (bs : List Value) (raw : ByteArray) (w : World) (w' : World) : Prop :=
  ∃ t, w.heap.size ≤ t ∧ Blk w' t 241 #[.int .i64 r.lineno, .int .i64 r.lineno, .string raw] ∧ DoneP B g r es e0 bs (.iface 239 (.pointer (some ⟨t, 0, none⟩))) w w'
end Go.Proofs.YtmcjhcfhglfmlaaGreatDoor
