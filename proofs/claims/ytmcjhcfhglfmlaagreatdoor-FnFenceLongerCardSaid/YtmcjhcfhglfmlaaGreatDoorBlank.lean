/- Blank lines alone. -/
import Derived.Test.YtmcjhcfhglfmlaaGreatDoorParse
import Derived.Test.YtmcjhcfhglfmlaaGreatDoorOpt
namespace Go.Proofs.YtmcjhcfhglfmlaaGreatDoor
open Go.RowKit
set_option maxRecDepth 20000 in
set_option maxHeartbeats 1600000 in
/-- A blank line while only the root is open. -/
theorem addLine_blank (g : Nat) (r : PSr) (text : ByteArray) (nl : Nat) (w : World) (hps : IsPS w g r) (hn : r.stack.n = 1) (hs : text.size ≤ 1000000) (hbl : (trimL text.data.toList).isEmpty = true) :
    Calls Tryz.prog 57 #[.pointer (some ⟨g, 0, none⟩), .agg #[.int .i64 0, .int .i64 0, .int .i64 0, .string text, .int .u8 nl]] w fun e w' => e = .returned (.tuple #[]) ∧ IsPS w' g { r with lineDepth := 0 } ∧ Mod (fun k => k = g) w w' := by
  have hg := hps.lt
  have c5 := hps.c5
  have c4 := hps.c4
  rw [hn] at c4
  have f1 := hps.free
  have hgn : ¬ g = w.heap.size := by omega
  go_enter Tryz.func57, Tryz.ntmps57
  go_wp2_with fail
  go_step3
  go_wp2_with fail
  refine wp_loop_rounds 1 ?_
  rw [rounds_succ]
  go_wp2_with fail
  go_quiet (fail)
  go_wp2_with fail
  refine (isBlank_any w.heap.size text 0 _ (Nat.zero_le _) (by omega) (by simp [go_sem]) (by simp [go_sem])).mono ?_
  rintro e w1 ⟨rfl, n, rfl⟩
  go_wp2_with fail
  refine (trimStack_none g { r with lineDepth := 0 } _ _ (by exact (hps.set5 0).alloc _) (by simp [hn])).mono ?_
  rintro e w1 ⟨rfl, rfl⟩
  go_wp2_with fail
  all_goals (try rw [Exit.noGoto_ret])
  go_returns
  refine ⟨rfl, (hps.set5 0).alloc _, ?_⟩
  exact ((((Mod.refl (fun k => k = g) w).setCell (.inl rfl) _).alloc _).drewN _)

theorem dropWhile_nil (p : UInt8 → Bool) : ∀ l : List UInt8, (∀ c ∈ l, p c = true) → l.dropWhile p = [] := by
  intro l
  induction l with
  | nil => intro _; rfl
  | cons a l ih =>
    intro h
    have := h a (List.mem_cons_self ..)
    simp only [List.dropWhile_cons, this, if_true]
    exact ih (fun c hc => h c (List.mem_cons_of_mem _ hc))
/-- What is known of a parse of blanks: the parseState and the stack with the root alone. -/
def BlankInv (pb g : Nat) (w0 : World) (L : Nat) (l : List UInt8) (n : Nat) (w : World) : Prop :=
  (∀ c ∈ l, c = 32 ∨ c = 9 ∨ c = 10 ∨ c = 13) ∧ n + l.length ≤ L ∧ Below g w0 w ∧ ∃ d st a, IsPS w g { ps0 pb with lineno := n, lineDepth := d, stack := st } ∧ IsStack w (g + 1) st ([] ++ [⟨98, .pointer a, Sl.nil, 0, 0⟩])
def BlankFin (pb g : Nat) (w0 : World) (k : Nat) (w : World) : Prop :=
  k = 0 ∧ Below g w0 w ∧ ∃ d st n ln, g < d ∧ IsPS w g { ps0 pb with lineno := n, lineDepth := ln, stack := st, root := some ⟨d, 0, none⟩ } ∧ Blk w d 339 #[.int .i64 0, .int .i64 0, .slice none 0 0, .map none]

theorem nextLine_sub (l : List UInt8) : (∀ c ∈ (nextLine l).1, c ∈ l) ∧ (∀ c ∈ (nextLine l).2.2, c ∈ l) := by
  unfold nextLine
  split
  · split <;> exact ⟨fun c h => List.mem_of_mem_take h, fun c h => List.mem_of_mem_drop h⟩
  · split
    · exact ⟨fun c h => List.mem_of_mem_take h, fun c h => List.mem_of_mem_drop h⟩
    · exact ⟨fun c h => h, fun c h => by simp at h⟩

theorem idxB_not (l : List UInt8) (c : UInt8) (h : c ∉ l) : idxB c l = -1 := by
  refine idxB_none l c l.length (fun j hj h' => h (List.mem_of_getElem? h')) (Nat.le_refl _)
theorem take_idx_not (l : List UInt8) (c : UInt8) (n : Nat) (h : (n : Int) ≤ idxB c l ∨ idxB c l < 0) : c ∉ l.take n := by
  intro hm
  obtain ⟨j, hj, e⟩ := List.getElem_of_mem hm
  rw [List.length_take] at hj
  rw [List.getElem_take] at e
  have hc : c ∈ l := e ▸ List.getElem_mem _
  unfold idxB at h
  cases hf : l.findIdx? (fun x => x == c) with
  | none =>
    rw [List.findIdx?_eq_none_iff] at hf
    have := hf c hc
    simp at this
  | some k =>
    rw [hf] at h
    simp only at h
    rw [List.findIdx?_eq_some_iff_getElem] at hf
    obtain ⟨_, _, h3⟩ := hf
    have := h3 j (by omega)
    rw [e] at this
    simp at this
theorem nextLine_len (l : List UInt8) : (nextLine l).1.length ≤ l.length := by
  unfold nextLine
  split
  · split <;> (simp only [List.length_take]; omega)
  · split
    · simp only [List.length_take]; omega
    · exact Nat.le_refl _
theorem nextLine_not (l : List UInt8) : 10 ∉ (nextLine l).1 ∧ 13 ∉ (nextLine l).1 := by
  have h1 := idxB_lt l 10
  have h2 := idxB_lt l 13
  unfold nextLine
  split
  · split
    all_goals exact ⟨take_idx_not _ _ _ (by omega), take_idx_not _ _ _ (by omega)⟩
  · split
    · exact ⟨take_idx_not _ _ _ (by omega), take_idx_not _ _ _ (by omega)⟩
    · have a := take_idx_not l 10 l.length (by omega)
      have b := take_idx_not l 13 l.length (by omega)
      rw [List.take_length] at a b
      exact ⟨a, b⟩

theorem blankH (pb g : Nat) (w0 : World) (L : Nat) (hL : L ≤ 1000000) (hpb : pb < g) (hp : w0.cell? ⟨pb, 2, none⟩ = some (.bool false)) : ParseH pb g none 0 (BlankInv pb g w0 L) (BlankFin pb g w0) L where
  line := by
    intro l n w ⟨hl, hn, hb, d, st, a, hps, hst⟩ hne hll
    refine ⟨⟨_, hps, rfl⟩, by omega, ?_⟩
    have hst' := hst
    obtain ⟨hsn, _⟩ := hst
    have hsub := nextLine_sub l
    have hnot := nextLine_not l
    have hr := nextLine_rest l hne
    refine (addLine_blank g { ps0 pb with lineno := (n : Int) + 1, lineDepth := d, stack := st } ⟨(nextLine l).1.toArray⟩ (nextLine l).2.1 _ (hps.set3 _) (by simpa using hsn) (bsz (by have := nextLine_len l; omega)) ?_).mono ?_
    · show (trimL ((nextLine l).1.toArray.toList)).isEmpty = true
      rw [List.isEmpty_iff, trimL]
      refine dropWhile_nil _ _ ?_
      intro c hc
      have hc' : c ∈ (nextLine l).1 := by simpa using hc
      rcases hl c (hsub.1 c hc') with h | h | h | h
      · rw [h]; rfl
      · rw [h]; rfl
      · exact absurd (h ▸ hc') hnot.1
      · exact absurd (h ▸ hc') hnot.2
    · rintro e w' ⟨rfl, hps', hm⟩
      refine ⟨rfl, fun c hc => hl c (hsub.2 c hc), by omega, ?_, 0, st, a, ?_, ?_⟩
      · exact (hb.setCell (p := ⟨g, 3, none⟩) (Nat.le_refl _) _).trans (hm.toBelow (B := g) (by simp; exact Nat.le_of_lt hps.lt) (fun k hk e => by omega))
      · have e : (((n + 1 : Nat)) : Int) = (n : Int) + 1 := by omega
        rw [e]; exact hps'
      · obtain ⟨sb, cap, hv, _, _, hob, _, hBs, _⟩ := hst'.top
        exact (hst'.far (p := ⟨g, 3, none⟩) (by rw [hob]; simp; omega) _).mod hm (fun k hk e => by rw [hob] at hk; cases hk; omega)
  drew := by
    intro l n w k ⟨hl, hn, hb, d, st, a, hps, hst⟩
    exact ⟨hl, hn, below_drewN hb k, d, st, a, hps.drewN k, hst.drewN k⟩
  trim := by
    intro n w ⟨hl, hn, hb, d, st, a, hps, hst⟩
    refine (trimRoot_any (g + 1) g _ a Sl.nil 0 0 w hps hst).mono ?_
    rintro e w' ⟨rfl, d', st', hd, hps', hblk, hm⟩
    refine ⟨rfl, rfl, ?_, d', st', n, d, by have := hps.lt; omega, hps', hblk⟩
    exact hb.trans (hm.toBelow (B := g) (Nat.le_of_lt hps.lt) (fun k hk e => by omega))
  at_ := by
    intro k w ⟨hk, hb, d, st, n, ln, hd, hps, hblk⟩
    refine ⟨by omega, _, 0, hps, rfl, ?_⟩
    rw [hb.cell (by exact hpb)]; exact hp
  text := by
    intro k w _ hk
    omega

def ParseBlankP (w : World) (e : Ending) (w' : World) : Prop := ∃ d, e = .returned (.tuple #[.pointer (some ⟨d, 0, none⟩), .bool false]) ∧ w.heap.size ≤ d ∧ Blk w' d 339 #[.int .i64 0, .int .i64 0, .slice none 0 0, .map none] ∧ Below w.heap.size w w'
theorem parse_blank (pb : Nat) (l : List UInt8) (w : World) (hl : ∀ c ∈ l, c = 32 ∨ c = 9 ∨ c = 10 ∨ c = 13) (hlen : l.length ≤ 1000000) (hp : w.cell? ⟨pb, 2, none⟩ = some (.bool false)) :
    Calls Tryz.prog 46 #[.pointer (some ⟨pb, 0, none⟩), .string ⟨l.toArray⟩] w (ParseBlankP w) := by
  have hpb : pb < w.heap.size := World.block_lt_of_cell? w _ hp
  refine (parse_gen pb l w none 0 (BlankInv pb w.heap.size w l.length) (BlankFin pb w.heap.size w) hlen (idxB_not l 0 (fun h => by rcases hl 0 h with h | h | h | h <;> cases h)) (blankH pb w.heap.size w l.length hlen hpb hp) ?_).mono ?_
  · intro w' bn hps hb
    refine (addBlock_top (w.heap.size + 1) w.heap.size (ps0 pb) [] w' 98 (.pointer (some ⟨bn, 0, none⟩)) hps.lt hps ⟨rfl, World.ownsRow_nil _ _ _ _⟩ rfl (by simp)).mono ?_
    rintro e w1 ⟨rfl, v, hps1, hst, _, hm⟩
    refine ⟨rfl, hl, by omega, ?_, -1, v, some ⟨bn, 0, none⟩, hps1, hst⟩
    exact hb.trans (hm.toBelow (B := w.heap.size) hb.size (fun k hk e => by
      rcases e with e | e
      · omega
      · simp [ps0, Sl.nil, Value.ownBlock] at e))
  · rintro e w' ⟨r, k, rfl, hps, w0, ⟨_, hb, d, st, n, ln, hd, hps0, hblk⟩, rfl⟩
    have h1 := hps.c1
    have h2 := hps0.c1
    have h3 := hps.c6
    have h4 := hps0.c6
    rw [show (w0.drewN k).cell? ⟨w.heap.size, 1, none⟩ = w0.cell? ⟨w.heap.size, 1, none⟩ from rfl, h2] at h1
    rw [show (w0.drewN k).cell? ⟨w.heap.size, 6, none⟩ = w0.cell? ⟨w.heap.size, 6, none⟩ from rfl, h4] at h3
    simp only [Option.some.injEq, Value.pointer.injEq, Value.bool.injEq] at h1 h3
    rw [← h1, ← h3]
    exact ⟨d, rfl, Nat.le_of_lt hd, hblk, below_drewN hb k⟩

set_option maxRecDepth 20000 in
theorem Parse_blank (pb : Nat) (l : List UInt8) (w : World) (hl : ∀ c ∈ l, c = 32 ∨ c = 9 ∨ c = 10 ∨ c = 13) (hlen : l.length ≤ 1000000) (hp : w.cell? ⟨pb, 2, none⟩ = some (.bool false)) :
    Calls Tryz.prog 31 #[.pointer (some ⟨pb, 0, none⟩), .string ⟨l.toArray⟩] w fun e w' => ∃ d, e = .returned (.pointer (some ⟨d, 0, none⟩)) ∧ w.heap.size ≤ d ∧ Blk w' d 339 #[.int .i64 0, .int .i64 0, .slice none 0 0, .map none] ∧ Below w.heap.size w w' := by
  go_enter Tryz.func31, Tryz.ntmps31
  go_wp2_with (go_at_call 46; refine (parse_blank pb l w hl hlen hp).mono ?_; rintro e w1 ⟨d, rfl, hd, hblk, hb⟩)
  go_ret
  exact ⟨d, rfl, hd, hblk, hb⟩

set_option maxRecDepth 20000 in
set_option maxHeartbeats 800000 in
theorem docHTML_empty (d b : Nat) (w : World) (hblk : Blk w d 339 #[.int .i64 0, .int .i64 0, .slice none 0 0, .map none]) :
    Calls Tryz.prog 239 #[.pointer (some ⟨d, 0, none⟩), .pointer (some ⟨b, 0, none⟩)] w fun e w' => e = .returned (.tuple #[]) ∧ w = w' := by
  have c2 : w.cell? ⟨d, 2, none⟩ = some (.slice none 0 0) := by rw [hblk.cell]; rfl
  go_enter Tryz.func239, Tryz.ntmps239
  go_wp2
  go_rounds 1
  go_end0
  exact ⟨rfl, rfl⟩

theorem conv_nil (w : World) : (convert 43 9 (.slice none 0 0)).run Tryz.prog w = .ok (.string ⟨#[]⟩) w := by kernel_rfl
set_option maxRecDepth 20000 in
set_option maxHeartbeats 800000 in
theorem bufString_empty (b : Nat) (w : World) (h0 : w.cell? ⟨b, 0, none⟩ = some (.slice none 0 0)) (h1 : w.cell? ⟨b, 1, none⟩ = some (.int .i64 0)) :
    Calls Tryz.prog 45 #[.pointer (some ⟨b, 0, none⟩)] w fun e w' => e = .returned (.string ⟨#[]⟩) ∧ ∃ n, w' = w.drewN n := by
  have kc := conv_nil
  go_enter Tryz.func45, Tryz.ntmps45
  go_wp2
  go_quiet (fail)
  go_wp2
  go_ret
  exact ⟨rfl, _, rfl⟩

set_option maxRecDepth 20000 in
set_option maxHeartbeats 800000 in
theorem toHTML_empty (d : Nat) (w : World) (hblk : Blk w d 339 #[.int .i64 0, .int .i64 0, .slice none 0 0, .map none]) :
    Calls Tryz.prog 29 #[.iface 45 (.pointer (some ⟨d, 0, none⟩))] w fun e w' => e = .returned (.string ⟨#[]⟩) ∧ Below w.heap.size w w' := by
  have hd := hblk.lt
  go_enter Tryz.func29, Tryz.ntmps29
  go_wp2_with (first | (go_at_call 239; refine (docHTML_empty d w.heap.size _ (Blk.alloc hblk _)).mono ?_; rintro e w' ⟨rfl, rfl⟩))
  refine (bufString_empty w.heap.size _ (by simp [go_sem]) (by simp [go_sem])).mono ?_
  rintro e w1 ⟨rfl, n, rfl⟩
  go_wp2_with fail
  go_ret
  exact ⟨rfl, below_drewN ((Below.refl _ _).alloc (Nat.le_refl _) _) n⟩

set_option maxRecDepth 20000 in
theorem HTML_blank (l : List UInt8) (w : World) (hl : ∀ c ∈ l, c = 32 ∨ c = 9 ∨ c = 10 ∨ c = 13) (hlen : l.length ≤ 1000000) :
    Calls Tryz.prog 12 #[plainO.v, .string ⟨l.toArray⟩] w fun e w' => e = .returned (.string ⟨#[]⟩) ∧ Below w.heap.size w w' := by
  have hv : plainO.v = .agg #[.bool false, .bool false, .bool false, .bool false, .bool false, .bool false, .bool false, .bool false, .bool false, .bool false] := rfl
  rw [hv]
  have HL := hid hl
  clear hl
  go_enter Tryz.func12, Tryz.ntmps12
  go_wp2_with fail
  refine (parser_any plainO _).mono ?_
  rintro e w1 ⟨g, rfl, hg, hblk, hb⟩
  have HB := hid hb
  have HBL := hid hblk
  have hp : w1.cell? ⟨g, 2, none⟩ = some (.bool false) := by rw [hblk.cell]; rfl
  clear hblk hb
  go_wp2_with fail
  refine (Parse_blank g l _ HL.out hlen hp).mono ?_
  rintro e w2 ⟨d, rfl, hd, hblk2, hb2⟩
  have HB2 := hid hb2
  clear hb2
  go_wp2_with fail
  refine (toHTML_empty d _ hblk2).mono ?_
  rintro e w3 ⟨rfl, hb3⟩
  have HB3 := hid hb3
  clear hb3
  go_wp2_with fail
  go_ret
  exact ⟨rfl, ((((Below.refl _ _).alloc (Nat.le_refl _) _).trans (HB.out.mono (by simp))).trans (HB2.out.mono (Nat.le_trans (by simp) HB.out.size))).trans (HB3.out.mono (Nat.le_trans (Nat.le_trans (by simp) HB.out.size) HB2.out.size))⟩

end Go.Proofs.YtmcjhcfhglfmlaaGreatDoor
