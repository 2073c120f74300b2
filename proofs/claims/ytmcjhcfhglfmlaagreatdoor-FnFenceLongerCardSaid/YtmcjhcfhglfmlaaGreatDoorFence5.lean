/- A fence of tildes: its block is built, and closed. -/
import Derived.Test.YtmcjhcfhglfmlaaGreatDoorFence4
namespace Go.Proofs.YtmcjhcfhglfmlaaGreatDoor
open Go.RowKit
theorem fen_build (B g fb : Nat) (r : PSr) (es : List Ent) (e0 : Ent) (cf : ByteArray) (v : Sl) (w : World) (hps : IsPS w g r) (hst : IsStack w B r.stack (es ++ [e0])) (hn : es.length ≤ 1000000) (hpr : Blk w fb 253 #[.string cf, .string ⟨#[]⟩, .int .i64 0, .slice v.a v.n v.c]) :
    Calls Tryz.prog 334 #[.pointer (some ⟨fb, 0, none⟩), .iface 116 (.pointer (some ⟨g, 0, none⟩))] w fun e w' => ∃ d, e = .returned (.iface 261 (.pointer (some ⟨d, 0, none⟩))) ∧ w.heap.size ≤ d ∧ Blk w' d 369 #[.int .i64 e0.sl, .int .i64 e0.el, .string cf, .string ⟨#[]⟩, .slice v.a v.n v.c] ∧ Below w.heap.size w w' := by
  have c0 := hpr.at_ 0 rfl
  have c1 := hpr.at_ 1 rfl
  have c3 := hpr.at_ 3 rfl
  have hg := hps.lt
  go_enter Tryz.func334, Tryz.ntmps334
  go_wp2
  go_region_held3 (fun w' => IsPS w' g r ∧ IsStack w' B r.stack (es ++ [e0]) ∧ w'.cell? ⟨fb, 0, none⟩ = some (.string cf) ∧ w'.cell? ⟨fb, 1, none⟩ = some (.string ⟨#[]⟩) ∧ w'.cell? ⟨fb, 3, none⟩ = some (.slice v.a v.n v.c) ∧ Below w.heap.size w w' ∧ Blk w' fb 253 #[.string cf, .string ⟨#[]⟩, .int .i64 0, .slice v.a v.n v.c])
    (first
      | exact ⟨hps.drew, hst.drew, c0, c1, c3, (Below.refl _ _).drew, hpr⟩
      | (go_split_ands; exact ⟨IsPS.below (by assumption) hb, IsStack.below (by assumption) hb, (Blk.mod (S := fun _ => False) (by assumption) (Mod.below' hb) (fun x => x)).at_ 0 rfl, (Blk.mod (S := fun _ => False) (by assumption) (Mod.below' hb) (fun x => x)).at_ 1 rfl, (Blk.mod (S := fun _ => False) (by assumption) (Mod.below' hb) (fun x => x)).at_ 3 rfl, Below.trans (by assumption) (hb.mono (Below.size (by assumption))), Blk.mod (S := fun _ => False) (by assumption) (Mod.below' hb) (fun x => x)⟩)
      | (go_split_ands; exact ⟨IsPS.alloc (by assumption) _, IsStack.alloc (by assumption) _, (Blk.alloc (by assumption) _).at_ 0 rfl, (Blk.alloc (by assumption) _).at_ 1 rfl, (Blk.alloc (by assumption) _).at_ 3 rfl, Below.alloc (by assumption) (Below.size (by assumption)) _, Blk.alloc (by assumption) _⟩))
    (first
      | (go_at_call 255; (try go_split_ands); refine (pos_any B g r es e0 _ (by assumption) (by assumption) hn).mono ?_; rintro e w1 ⟨rfl, hb⟩))
  all_goals go_wp2
  all_goals go_ret
  all_goals
    obtain ⟨_, _, _, _, _, hB, _⟩ := ‹IsPS _ g r ∧ _ ∧ _ ∧ _ ∧ _ ∧ Below w.heap.size w _ ∧ _›
    have hz : w.heap.size ≤ w1.heap.size := hb.size
    exact ⟨_, rfl, hz, Blk.new _ _ _, hB⟩
theorem fen_build_via (fb : Nat) (W : World) : (method 475 251 (.pointer (some ⟨fb, 0, none⟩)) "pub-paratext/pub/rscmarkdown.build").run Tryz.prog W = .ok (334, .pointer (some ⟨fb, 0, none⟩)) W := by kernel_rfl
theorem fen_ext_via (fb : Nat) (W : World) : (method 475 251 (.pointer (some ⟨fb, 0, none⟩)) "pub-paratext/pub/rscmarkdown.extend").run Tryz.prog W = .ok (335, .pointer (some ⟨fb, 0, none⟩)) W := by kernel_rfl
theorem ta_fcode_list (p : Option Addr) (w : World) : (Instr.typeAssert (.iface 261 (.pointer p)) 68 111 true).run Tryz.prog w = .ok (.tuple #[.pointer none, .bool false]) w := by kernel_rfl
def fcbV (t : Nat) : Value := .iface 261 (.pointer (some ⟨t, 0, none⟩))
/-- A block of fenced code, as its builder leaves it. -/
def FcbQ (B : Nat) (sl el : Int) (cf : ByteArray) (v : Sl) (ls : List Value) (w : World) (k : Nat) (w' : World) : Prop :=
  w.heap.size ≤ k ∧ Blk w' k 369 #[.int .i64 sl, .int .i64 el, .string cf, .string ⟨#[]⟩, v.v] ∧ w'.ownsRow B 9 1 v.v v.n ls ∧ Below w.heap.size w w'
theorem closeFen_any (B g fb : Nat) (r : PSr) (e1 : Ent) (cf : ByteArray) (v : Sl) (ls : List Value) (sl el : Int) (w : World) (hB : B ≤ w.heap.size) (hps : IsPS w g r) (hst : IsStack w B r.stack ([] ++ [e1] ++ [fenE fb sl el])) (hi : e1.inner = Sl.nil) (hpr : Blk w fb 253 #[.string cf, .string ⟨#[]⟩, .int .i64 0, v.v]) (hrow : w.ownsRow B 9 1 v.v v.n ls) :
    Calls Tryz.prog 66 #[.pointer (some ⟨g, 0, none⟩)] w (CloseP B g r r [] e1 [] 261 (FcbQ B sl el cf v ls w)) := by
  refine close_gen B g r r [] e1 (fenE fb sl el) [] 261 _ 334 (.pointer (some ⟨fb, 0, none⟩)) w hps hst (by simp) (by rw [hi]; simp [Sl.nil]) (fen_build_via fb) (Go.Proofs.enters_of Tryz.func334 (by kernel_rfl) rfl) ta_fcode_list ?_
  intro n
  refine (fen_build B g fb r ([] ++ [e1]) (fenE fb sl el) cf v (w.drewN n) (hps.drewN n) (hst.drewN n) (by simp) hpr).mono ?_
  rintro e w' ⟨d, rfl, hd, hblk, hb⟩
  have hbw : Below w.heap.size w w' := (below_drewN (Below.refl _ _) n).trans hb
  exact ⟨d, rfl, hps.below hbw, rfl, hst.below hbw, by rw [hi]; exact World.ownsRow_nil _ _ _ _, Nat.le_trans hB hbw.size, hd, hblk, own_mod (S := fun _ => False) hrow (Mod.below' hbw) (fun _ _ h => h), hbw⟩
def TrimFenP (B g : Nat) (r : PSr) (a : Option Addr) (cf : ByteArray) (v : Sl) (ls : List Value) (sl el : Int) (w w' : World) : Prop :=
  ∃ (st v1 : Sl) (cb : Nat), IsPS w' g { r with stack := st } ∧ IsStack w' B st ([] ++ [⟨98, .pointer a, v1, 0, 0⟩]) ∧ v1.n = 1 ∧ w'.ownsRow B 68 1 v1.v 1 [fcbV cb] ∧
    Blk w' cb 369 #[.int .i64 sl, .int .i64 el, .string cf, .string ⟨#[]⟩, v.v] ∧ w'.ownsRow B 9 1 v.v v.n ls ∧ Mod (fun k => g ≤ k) w w'
set_option maxRecDepth 20000 in
set_option maxHeartbeats 1600000 in
theorem trimFen_any (B g fb : Nat) (r : PSr) (a : Option Addr) (cf : ByteArray) (v : Sl) (ls : List Value) (sl el : Int) (w : World) (hgB : g < B) (hB : B ≤ w.heap.size) (hps : IsPS w g r) (hst : IsStack w B r.stack ([] ++ [⟨98, .pointer a, Sl.nil, 0, 0⟩] ++ [fenE fb sl el])) (hpr : Blk w fb 253 #[.string cf, .string ⟨#[]⟩, .int .i64 0, v.v]) (hrow : w.ownsRow B 9 1 v.v v.n ls) :
    Calls Tryz.prog 58 #[.pointer (some ⟨g, 0, none⟩), .int .i64 1] w fun e w' => e = .returned (.tuple #[]) ∧ TrimFenP B g r a cf v ls sl el w w' := by
  have hsn : r.stack.n = 2 := hst.1
  have c4 := hps.c4
  rw [hsn] at c4
  have hcl := hid (closeFen_any B g fb r _ cf v ls sl el w hB hps hst rfl hpr hrow)
  have HPS := hid hps
  have HST := hid hst
  clear hps hst hpr hrow
  go_enter Tryz.func58, Tryz.ntmps58
  go_wp2_with fail
  refine wp_loop_rounds 2 ?_
  rw [rounds_succ]
  go_wp2_with fail
  refine hcl.out.mono ?_
  rintro e w2 ⟨k, w1, v1, st1, rfl, ⟨hk, hblk, hrow1, hb1⟩, hps2, hst2, hob2, hv1, hin2, hm2⟩
  have hst2n : st1.n = 1 := hst2.1
  have d4 := hps2.c4
  rw [show ({ r with stack := st1 } : PSr).stack = st1 from rfl, hst2n] at d4
  have hv1' : v1.n = 1 := hv1
  have hge : ∀ k, (k = g ∨ some k = r.stack.v.ownBlock ∨ some k = (Sl.nil).v.ownBlock) → g ≤ k := fun k h => by
    rcases h with h | h | h
    · omega
    · have := ownBase HST.out.2 h; omega
    · simp [Sl.nil, Value.ownBlock] at h
  have hblk2 : Blk w2 k 369 #[.int .i64 sl, .int .i64 el, .string cf, .string ⟨#[]⟩, v.v] := hblk.mod hm2 (fun h => by
    rcases h with h | h | h
    · have := HPS.out.lt; omega
    · have := ownLt HST.out.2 h; omega
    · simp [Sl.nil, Value.ownBlock] at h)
  have hrow2 : w2.ownsRow B 9 1 v.v v.n ls := own_mod hrow1 hm2 (fun q hq h => by
    rcases h with h | h | h
    · subst h; exact own_ne hrow1 (IsPS.below HPS.out hb1) (by decide) hq.symm
    · exact ownApart hrow1 (IsStack.below HST.out hb1).2 (by decide) hq h.symm
    · simp [Sl.nil, Value.ownBlock] at h)
  have HM12 := hid (((Mod.below' hb1 : Mod (fun k => g ≤ k) w w1)).trans hm2 (fun k _ h => hge k h))
  have HIN := hid hin2
  have HBK := hid hblk2
  have HRW := hid hrow2
  have HP2 := hid hps2
  have HS2 := hid hst2
  clear hst2 hin2 hblk2 hrow2 hm2 hps2 hb1 hblk hrow1 hge hob2 c4
  go_wp2_with fail
  rw [rounds_succ]
  go_wp2_with fail
  go_end0
  have hin3 := HIN.out
  rw [hv1'] at hin3
  exact ⟨rfl, st1, v1, k, HP2.out, HS2.out, hv1', hin3, HBK.out, HRW.out, HM12.out⟩
end Go.Proofs.YtmcjhcfhglfmlaaGreatDoor
