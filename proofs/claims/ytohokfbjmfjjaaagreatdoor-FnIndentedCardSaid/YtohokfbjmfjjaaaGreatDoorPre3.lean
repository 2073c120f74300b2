/- Indented code: its block is built, and the stack is closed. -/
import Derived.Test.YtohokfbjmfjjaaaGreatDoorPre2
import Derived.Shelf.Abstract
namespace Go.Proofs.YtohokfbjmfjjaaaGreatDoor
open Go.RowKit
theorem own_ge3 {w : World} {base : Nat} {e : TypeId} {size n : Nat} {v : Value} {xs : List Value} (h : w.ownsRow base e size v n xs) {k : Nat} (hk : some k = v.ownBlock) : base ≤ k := by
  rcases h.2 with ⟨rfl, _⟩ | ⟨g', cap, cur, rfl, hb, _⟩
  · simp [Value.ownBlock] at hk
  · simp only [Value.ownBlock, Option.some.injEq] at hk
    omega
theorem own_apart3 {w : World} {base base2 : Nat} {e e2 : TypeId} {size size2 n n2 : Nat} {v v2 : Value} {xs ys : List Value} (h : w.ownsRow base e size v n xs) (h2 : w.ownsRow base2 e2 size2 v2 n2 ys) (hne : e ≠ e2) {k : Nat} (hk : v.ownBlock = some k) : v2.ownBlock ≠ some k := by
  intro hk2
  rcases h.2 with ⟨rfl, _⟩ | ⟨g', cap, cur, rfl, _, hh, _⟩
  · simp [Value.ownBlock] at hk
  · rcases h2.2 with ⟨rfl, _⟩ | ⟨g2, cap2, cur2, rfl, _, hh2, _⟩
    · simp [Value.ownBlock] at hk2
    · simp only [Value.ownBlock, Option.some.injEq] at hk hk2
      subst hk
      subst hk2
      exact Blk.ne_ (t := e) hh hh2 hne rfl
def preEn (pb : Nat) (sl el : Int) : Ent := ⟨230, .pointer (some ⟨pb, 0, none⟩), Sl.nil, sl, el⟩
set_option maxRecDepth 20000 in
set_option maxHeartbeats 1600000 in
theorem pre_build (B g pb : Nat) (r : PSr) (es : List Ent) (e0 : Ent) (v : Sl) (w : World) (hps : IsPS w g r) (hst : IsStack w B r.stack (es ++ [e0])) (hn : es.length ≤ 1000000) (hpr : Blk w pb 232 #[.string ⟨#[]⟩, .slice v.a v.n v.c]) :
    Calls Tryz.prog 318 #[.pointer (some ⟨pb, 0, none⟩), .iface 86 (.pointer (some ⟨g, 0, none⟩))] w fun e w' => ∃ d, e = .returned (.iface 236 (.pointer (some ⟨d, 0, none⟩))) ∧ w.heap.size ≤ d ∧ Blk w' d 362 #[.int .i64 e0.sl, .int .i64 e0.el, .string ⟨#[]⟩, .string ⟨#[]⟩, .slice v.a v.n v.c] ∧ Below w.heap.size w w' := by
  have c1 := hpr.at_ 1 rfl
  have hg := hps.lt
  go_enter Tryz.func318, Tryz.ntmps318
  go_wp2
  go_region_held3 (fun w' => IsPS w' g r ∧ IsStack w' B r.stack (es ++ [e0]) ∧ w'.cell? ⟨pb, 1, none⟩ = some (.slice v.a v.n v.c) ∧ Below w.heap.size w w' ∧ Blk w' pb 232 #[.string ⟨#[]⟩, .slice v.a v.n v.c])
    (first
      | exact ⟨hps.drew, hst.drew, c1, (Below.refl _ _).drew, hpr⟩
      | (go_split_ands; exact ⟨IsPS.below (by assumption) hb, IsStack.below (by assumption) hb, (Blk.mod (S := fun _ => False) (by assumption) (Mod.below' hb) (fun x => x)).at_ 1 rfl, Below.trans (by assumption) (hb.mono (Below.size (by assumption))), Blk.mod (S := fun _ => False) (by assumption) (Mod.below' hb) (fun x => x)⟩)
      | (go_split_ands; exact ⟨IsPS.alloc (by assumption) _, IsStack.alloc (by assumption) _, (Blk.alloc (by assumption) _).at_ 1 rfl, Below.alloc (by assumption) (Below.size (by assumption)) _, Blk.alloc (by assumption) _⟩))
    (first
      | (go_at_call 237; (try go_split_ands); refine (pos_any B g r es e0 _ (by assumption) (by assumption) hn).mono ?_; rintro e w1 ⟨rfl, hb⟩))
  all_goals go_wp2
  all_goals go_ret
  all_goals
    obtain ⟨_, _, _, hB, _⟩ := ‹IsPS _ g r ∧ _ ∧ _ ∧ Below w.heap.size w _ ∧ _›
    have hz : w.heap.size ≤ w1.heap.size := hb.size
    exact ⟨_, rfl, hz, Blk.new _ _ _, hB⟩
theorem pre_build_via (pb : Nat) (W : World) : (method 468 230 (.pointer (some ⟨pb, 0, none⟩)) "pub-paratext/pub/rscmarkdown.build").run Tryz.prog W = .ok (318, .pointer (some ⟨pb, 0, none⟩)) W := by kernel_rfl
theorem ta_code_list (p : Option Addr) (w : World) : (Instr.typeAssert (.iface 236 (.pointer p)) 45 84 true).run Tryz.prog w = .ok (.tuple #[.pointer none, .bool false]) w := by kernel_rfl
def cbV (t : Nat) : Value := .iface 236 (.pointer (some ⟨t, 0, none⟩))
/-- A block of code, as its builder leaves it. -/
def CbQ (B : Nat) (sl el : Int) (v : Sl) (ls : List Value) (w : World) (k : Nat) (w' : World) : Prop :=
  w.heap.size ≤ k ∧ Blk w' k 362 #[.int .i64 sl, .int .i64 el, .string ⟨#[]⟩, .string ⟨#[]⟩, v.v] ∧ w'.ownsRow B 9 1 v.v v.n ls ∧ Below w.heap.size w w'
theorem closePre_any (B g pb : Nat) (r : PSr) (e1 : Ent) (v : Sl) (ls : List Value) (sl el : Int) (w : World) (hB : B ≤ w.heap.size) (hps : IsPS w g r) (hst : IsStack w B r.stack ([] ++ [e1] ++ [preEn pb sl el])) (hi : e1.inner = Sl.nil) (hpr : Blk w pb 232 #[.string ⟨#[]⟩, v.v]) (hrow : w.ownsRow B 9 1 v.v v.n ls) :
    Calls Tryz.prog 35 #[.pointer (some ⟨g, 0, none⟩)] w (CloseP B g r r [] e1 [] 236 (CbQ B sl el v ls w)) := by
  refine close_gen B g r r [] e1 (preEn pb sl el) [] 236 _ 318 (.pointer (some ⟨pb, 0, none⟩)) w hps hst (by simp) (by rw [hi]; simp [Sl.nil]) (pre_build_via pb) (Go.Proofs.enters_of Tryz.func318 (by kernel_rfl) rfl) ta_code_list ?_
  intro n
  refine (pre_build B g pb r ([] ++ [e1]) (preEn pb sl el) v (w.drewN n) (hps.drewN n) (hst.drewN n) (by simp) hpr).mono ?_
  rintro e w' ⟨d, rfl, hd, hblk, hb⟩
  have hbw : Below w.heap.size w w' := (below_drewN (Below.refl _ _) n).trans hb
  exact ⟨d, rfl, hps.below hbw, rfl, hst.below hbw, by rw [hi]; exact World.ownsRow_nil _ _ _ _, Nat.le_trans hB hbw.size, hd, hblk, own_mod (S := fun _ => False) hrow (Mod.below' hbw) (fun _ _ h => h), hbw⟩
def TrimPreP (B g : Nat) (r : PSr) (v : Sl) (ls : List Value) (sl el : Int) (w w' : World) : Prop :=
  ∃ (d : Nat) (st v1 : Sl) (cb : Nat), w.heap.size ≤ d ∧ IsPS w' g { r with root := some ⟨d, 0, none⟩, stack := st } ∧ Blk w' d 332 #[.int .i64 0, .int .i64 0, v1.v, .map r.links] ∧ v1.n = 1 ∧ w'.ownsRow B 45 1 v1.v 1 [cbV cb] ∧
    Blk w' cb 362 #[.int .i64 sl, .int .i64 el, .string ⟨#[]⟩, .string ⟨#[]⟩, v.v] ∧ w'.ownsRow B 9 1 v.v v.n ls ∧ Mod (fun k => g ≤ k) w w'
set_option maxRecDepth 20000 in
set_option maxHeartbeats 1600000 in
theorem trimPre_any (B g pb : Nat) (r : PSr) (a : Option Addr) (v : Sl) (ls : List Value) (sl el : Int) (w : World) (hgB : g < B) (hB : B ≤ w.heap.size) (hps : IsPS w g r) (hst : IsStack w B r.stack ([] ++ [⟨70, .pointer a, Sl.nil, 0, 0⟩] ++ [preEn pb sl el])) (hpr : Blk w pb 232 #[.string ⟨#[]⟩, v.v]) (hrow : w.ownsRow B 9 1 v.v v.n ls) :
    Calls Tryz.prog 28 #[.pointer (some ⟨g, 0, none⟩), .int .i64 0] w fun e w' => e = .returned (.tuple #[]) ∧ TrimPreP B g r v ls sl el w w' := by
  have hsn : r.stack.n = 2 := hst.1
  have c4 := hps.c4
  rw [hsn] at c4
  have hcl := hid (closePre_any B g pb r _ v ls sl el w hB hps hst rfl hpr hrow)
  have HPS := hid hps
  have HST := hid hst
  clear hps hst hpr hrow
  go_enter Tryz.func28, Tryz.ntmps28
  go_wp2_with fail
  refine wp_loop_rounds 3 ?_
  rw [rounds_succ]
  go_wp2_with fail
  refine hcl.out.mono ?_
  rintro e w2 ⟨k, w1, v1, st1, rfl, ⟨hk, hblk, hrow1, hb1⟩, hps2, hst2, hob2, hv1, hin2, hm2⟩
  have hst2n : st1.n = 1 := hst2.1
  have d4 := hps2.c4
  rw [show ({ r with stack := st1 } : PSr).stack = st1 from rfl, hst2n] at d4
  have hv1' : v1.n = 1 := hv1
  have hge : ∀ k, (k = g ∨ some k = r.stack.v.ownBlock ∨ some k = (Sl.nil).v.ownBlock) → g ≤ k := fun k h => by
    rcases h with h | h | h
    · omega
    · have := own_ge3 HST.out.2 h; omega
    · simp [Sl.nil, Value.ownBlock] at h
  have hblk2 : Blk w2 k 362 #[.int .i64 sl, .int .i64 el, .string ⟨#[]⟩, .string ⟨#[]⟩, v.v] := hblk.mod hm2 (fun h => by
    rcases h with h | h | h
    · have := HPS.out.lt; omega
    · have := own_lt HST.out.2 h; omega
    · simp [Sl.nil, Value.ownBlock] at h)
  have hrow2 : w2.ownsRow B 9 1 v.v v.n ls := own_mod hrow1 hm2 (fun q hq h => by
    rcases h with h | h | h
    · subst h; exact own_ne hrow1 (IsPS.below HPS.out hb1) (by decide) hq.symm
    · exact own_apart3 hrow1 (IsStack.below HST.out hb1).2 (by decide) hq h.symm
    · simp [Sl.nil, Value.ownBlock] at h)
  have HC := hid (closeRoot_any B g { r with stack := st1 } a v1 0 0 w2 hps2 hst2)
  have HIN := hid hin2
  have HBK := hid hblk2
  have HRW := hid hrow2
  have HM12 := hid (((Mod.below' hb1 : Mod (fun k => g ≤ k) w w1)).trans hm2 (fun k _ h => hge k h))
  have HP2 := hid hps2
  clear hst2 hin2 hblk2 hrow2 hm2 hps2 hb1 hblk hrow1 hge hob2 c4
  go_wp2_with fail
  rw [rounds_succ]
  go_wp2_with fail
  refine HC.out.mono ?_
  rintro e w3 ⟨d, st3, rfl, hd, hst30, hps3, hblk3, hm3⟩
  have e4 := hps3.c4
  rw [show ({ r with stack := st3, root := some ⟨d, 0, none⟩ } : PSr).stack = st3 from rfl, hst30] at e4
  have HP3 := hid hps3
  have HD3 := hid hblk3
  have HM3 := hid hm3
  clear hps3 hblk3 hm3 d4
  go_wp2_with fail
  rw [rounds_succ]
  go_wp2_with fail
  go_end0
  refine ⟨rfl, d, st3, v1, k, Nat.le_trans HM12.out.size hd, HP3.out, HD3.out, hv1', ?_, HBK.out.mod HM3.out (fun h => by subst h; exact Blk.ne_ HBK.out HP2.out (by decide) rfl), own_mod HRW.out HM3.out (fun q hq h => by subst h; exact own_ne HRW.out HP2.out (by decide) hq.symm), HM12.out.trans HM3.out (fun k _ h => by omega)⟩
  have hin3 := own_mod HIN.out HM3.out (fun q hq h => by subst h; exact own_ne HIN.out HP2.out (by decide) hq.symm)
  rw [hv1'] at hin3
  exact hin3
end Go.Proofs.YtohokfbjmfjjaaaGreatDoor
