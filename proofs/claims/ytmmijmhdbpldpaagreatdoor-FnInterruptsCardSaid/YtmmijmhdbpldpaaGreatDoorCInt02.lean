/- Texts of this proof, joined: Blank lines alone, Lines put together with line feeds, and taken apart again, in plain Lean, A line without tabs: what its small methods do. -/
import Derived.Test.YtmmijmhdbpldpaaGreatDoorCInt01
import Derived.Test.YtmmijmhdbpldpaaGreatDoorProg
import Derived.OwnWalk
/- Blank lines alone. -/


namespace Go.Proofs.YtmmijmhdbpldpaaGreatDoor
open Go.RowKit
set_option maxRecDepth 20000 in
set_option maxHeartbeats 1600000 in
/-- A blank line while only the root is open. -/
theorem addLine_blank (g : Nat) (r : PSr) (text : ByteArray) (nl : Nat) (w : World) (hps : IsPS w g r) (hn : r.stack.n = 1) (hs : text.size ≤ 1000000) (hbl : (trimL text.data.toList).isEmpty = true) :
    Calls Tryz.prog 54 #[.pointer (some ⟨g, 0, none⟩), .agg #[.int .i64 0, .int .i64 0, .int .i64 0, .string text, .int .u8 nl]] w fun e w' => e = .returned (.tuple #[]) ∧ IsPS w' g { r with lineDepth := 0 } ∧ Mod (fun k => k = g) w w' := by
  have hg := hps.lt
  have c5 := hps.c5
  have c4 := hps.c4
  rw [hn] at c4
  have f1 := hps.free
  have hgn : ¬ g = w.heap.size := by omega
  go_enter Tryz.func54, Tryz.ntmps54
  go_wp2_with fail
  go_step3
  go_wp2_with fail
  refine wp_loop_rounds 1 ?_
  rw [rounds_succ]
  go_wp2_with fail
  go_quiet (fail)
  go_wp2_with fail
  refine (isBlank_any w.heap.size text 0 _ (Nat.zero_le _) (by omega) (by simp [go_sem]) (by simp [go_sem])).mono ?_
  rintro e w1 ⟨rfl, n, rfl⟩
  go_wp2_with fail
  refine (trimStack_none g { r with lineDepth := 0 } _ _ (by exact (hps.set5 0).alloc _) (by simp [hn])).mono ?_
  rintro e w1 ⟨rfl, rfl⟩
  go_wp2_with fail
  all_goals (try rw [Exit.noGoto_ret])
  go_returns
  refine ⟨rfl, (hps.set5 0).alloc _, ?_⟩
  exact ((((Mod.refl (fun k => k = g) w).setCell (.inl rfl) _).alloc _).drewN _)

theorem dropWhile_nil (p : UInt8 → Bool) : ∀ l : List UInt8, (∀ c ∈ l, p c = true) → l.dropWhile p = [] := by
  intro l
  induction l with
  | nil => intro _; rfl
  | cons a l ih =>
    intro h
    have := h a (List.mem_cons_self ..)
    simp only [List.dropWhile_cons, this, if_true]
    exact ih (fun c hc => h c (List.mem_cons_of_mem _ hc))
/-- What is known of a parse of blanks: the parseState and the stack with the root alone. -/
def BlankInv (pb g : Nat) (w0 : World) (L : Nat) (l : List UInt8) (n : Nat) (w : World) : Prop :=
  (∀ c ∈ l, c = 32 ∨ c = 9 ∨ c = 10 ∨ c = 13) ∧ n + l.length ≤ L ∧ Below g w0 w ∧ ∃ d st a, IsPS w g { ps0 pb with lineno := n, lineDepth := d, stack := st } ∧ IsStack w (g + 1) st ([] ++ [⟨98, .pointer a, Sl.nil, 0, 0⟩])
def BlankFin (pb g : Nat) (w0 : World) (k : Nat) (w : World) : Prop :=
  k = 0 ∧ Below g w0 w ∧ ∃ d st n ln, g < d ∧ IsPS w g { ps0 pb with lineno := n, lineDepth := ln, stack := st, root := some ⟨d, 0, none⟩ } ∧ Blk w d 339 #[.int .i64 0, .int .i64 0, .slice none 0 0, .map none]

theorem nextLine_sub (l : List UInt8) : (∀ c ∈ (nextLine l).1, c ∈ l) ∧ (∀ c ∈ (nextLine l).2.2, c ∈ l) := by
  unfold nextLine
  split
  · split <;> exact ⟨fun c h => List.mem_of_mem_take h, fun c h => List.mem_of_mem_drop h⟩
  · split
    · exact ⟨fun c h => List.mem_of_mem_take h, fun c h => List.mem_of_mem_drop h⟩
    · exact ⟨fun c h => h, fun c h => by simp at h⟩

theorem idxB_not (l : List UInt8) (c : UInt8) (h : c ∉ l) : idxB c l = -1 := by
  refine idxB_none l c l.length (fun j hj h' => h (List.mem_of_getElem? h')) (Nat.le_refl _)
theorem take_idx_not (l : List UInt8) (c : UInt8) (n : Nat) (h : (n : Int) ≤ idxB c l ∨ idxB c l < 0) : c ∉ l.take n := by
  intro hm
  obtain ⟨j, hj, e⟩ := List.getElem_of_mem hm
  rw [List.length_take] at hj
  rw [List.getElem_take] at e
  have hc : c ∈ l := e ▸ List.getElem_mem _
  unfold idxB at h
  cases hf : l.findIdx? (fun x => x == c) with
  | none =>
    rw [List.findIdx?_eq_none_iff] at hf
    have := hf c hc
    simp at this
  | some k =>
    rw [hf] at h
    simp only at h
    rw [List.findIdx?_eq_some_iff_getElem] at hf
    obtain ⟨_, _, h3⟩ := hf
    have := h3 j (by omega)
    rw [e] at this
    simp at this
theorem nextLine_len (l : List UInt8) : (nextLine l).1.length ≤ l.length := by
  unfold nextLine
  split
  · split <;> (simp only [List.length_take]; omega)
  · split
    · simp only [List.length_take]; omega
    · exact Nat.le_refl _
theorem nextLine_not (l : List UInt8) : 10 ∉ (nextLine l).1 ∧ 13 ∉ (nextLine l).1 := by
  have h1 := idxB_lt l 10
  have h2 := idxB_lt l 13
  unfold nextLine
  split
  · split
    all_goals exact ⟨take_idx_not _ _ _ (by omega), take_idx_not _ _ _ (by omega)⟩
  · split
    · exact ⟨take_idx_not _ _ _ (by omega), take_idx_not _ _ _ (by omega)⟩
    · have a := take_idx_not l 10 l.length (by omega)
      have b := take_idx_not l 13 l.length (by omega)
      rw [List.take_length] at a b
      exact ⟨a, b⟩

theorem blankH (pb g : Nat) (w0 : World) (L : Nat) (hL : L ≤ 1000000) (hpb : pb < g) (hp : w0.cell? ⟨pb, 2, none⟩ = some (.bool false)) : ParseH pb g none 0 (BlankInv pb g w0 L) (BlankFin pb g w0) L where
  line := by
    intro l n w ⟨hl, hn, hb, d, st, a, hps, hst⟩ hne hll
    refine ⟨⟨_, hps, rfl⟩, by omega, ?_⟩
    have hst' := hst
    obtain ⟨hsn, _⟩ := hst
    have hsub := nextLine_sub l
    have hnot := nextLine_not l
    have hr := nextLine_rest l hne
    refine (addLine_blank g { ps0 pb with lineno := (n : Int) + 1, lineDepth := d, stack := st } ⟨(nextLine l).1.toArray⟩ (nextLine l).2.1 _ (hps.set3 _) (by simpa using hsn) (bsz (by have := nextLine_len l; omega)) ?_).mono ?_
    · show (trimL ((nextLine l).1.toArray.toList)).isEmpty = true
      rw [List.isEmpty_iff, trimL]
      refine dropWhile_nil _ _ ?_
      intro c hc
      have hc' : c ∈ (nextLine l).1 := by simpa using hc
      rcases hl c (hsub.1 c hc') with h | h | h | h
      · rw [h]; rfl
      · rw [h]; rfl
      · exact absurd (h ▸ hc') hnot.1
      · exact absurd (h ▸ hc') hnot.2
    · rintro e w' ⟨rfl, hps', hm⟩
      refine ⟨rfl, fun c hc => hl c (hsub.2 c hc), by omega, ?_, 0, st, a, ?_, ?_⟩
      · exact (hb.setCell (p := ⟨g, 3, none⟩) (Nat.le_refl _) _).trans (hm.toBelow (B := g) (by simp; exact Nat.le_of_lt hps.lt) (fun k hk e => by omega))
      · have e : (((n + 1 : Nat)) : Int) = (n : Int) + 1 := by omega
        rw [e]; exact hps'
      · obtain ⟨sb, cap, hv, _, _, hob, _, hBs, _⟩ := hst'.top
        exact (hst'.far (p := ⟨g, 3, none⟩) (by rw [hob]; simp; omega) _).mod hm (fun k hk e => by rw [hob] at hk; cases hk; omega)
  drew := by
    intro l n w k ⟨hl, hn, hb, d, st, a, hps, hst⟩
    exact ⟨hl, hn, below_drewN hb k, d, st, a, hps.drewN k, hst.drewN k⟩
  trim := by
    intro n w ⟨hl, hn, hb, d, st, a, hps, hst⟩
    refine (trimRoot_any (g + 1) g _ a Sl.nil 0 0 w hps hst).mono ?_
    rintro e w' ⟨rfl, d', st', hd, hps', hblk, hm⟩
    refine ⟨rfl, rfl, ?_, d', st', n, d, by have := hps.lt; omega, hps', hblk⟩
    exact hb.trans (hm.toBelow (B := g) (Nat.le_of_lt hps.lt) (fun k hk e => by omega))
  at_ := by
    intro k w ⟨hk, hb, d, st, n, ln, hd, hps, hblk⟩
    refine ⟨by omega, _, 0, hps, rfl, ?_⟩
    rw [hb.cell (by exact hpb)]; exact hp
  text := by
    intro k w _ hk
    omega

def ParseBlankP (w : World) (e : Ending) (w' : World) : Prop := ∃ d, e = .returned (.tuple #[.pointer (some ⟨d, 0, none⟩), .bool false]) ∧ w.heap.size ≤ d ∧ Blk w' d 339 #[.int .i64 0, .int .i64 0, .slice none 0 0, .map none] ∧ Below w.heap.size w w'
theorem parse_blank (pb : Nat) (l : List UInt8) (w : World) (hl : ∀ c ∈ l, c = 32 ∨ c = 9 ∨ c = 10 ∨ c = 13) (hlen : l.length ≤ 1000000) (hp : w.cell? ⟨pb, 2, none⟩ = some (.bool false)) :
    Calls Tryz.prog 43 #[.pointer (some ⟨pb, 0, none⟩), .string ⟨l.toArray⟩] w (ParseBlankP w) := by
  have hpb : pb < w.heap.size := World.block_lt_of_cell? w _ hp
  refine (parse_gen pb l w none 0 (BlankInv pb w.heap.size w l.length) (BlankFin pb w.heap.size w) hlen (idxB_not l 0 (fun h => by rcases hl 0 h with h | h | h | h <;> cases h)) (blankH pb w.heap.size w l.length hlen hpb hp) ?_).mono ?_
  · intro w' bn hps hb
    refine (addBlock_top (w.heap.size + 1) w.heap.size (ps0 pb) [] w' 98 (.pointer (some ⟨bn, 0, none⟩)) hps.lt hps ⟨rfl, World.ownsRow_nil _ _ _ _⟩ rfl (by simp)).mono ?_
    rintro e w1 ⟨rfl, v, hps1, hst, _, hm⟩
    refine ⟨rfl, hl, by omega, ?_, -1, v, some ⟨bn, 0, none⟩, hps1, hst⟩
    exact hb.trans (hm.toBelow (B := w.heap.size) hb.size (fun k hk e => by
      rcases e with e | e
      · omega
      · simp [ps0, Sl.nil, Value.ownBlock] at e))
  · rintro e w' ⟨r, k, rfl, hps, w0, ⟨_, hb, d, st, n, ln, hd, hps0, hblk⟩, rfl⟩
    have h1 := hps.c1
    have h2 := hps0.c1
    have h3 := hps.c6
    have h4 := hps0.c6
    rw [show (w0.drewN k).cell? ⟨w.heap.size, 1, none⟩ = w0.cell? ⟨w.heap.size, 1, none⟩ from rfl, h2] at h1
    rw [show (w0.drewN k).cell? ⟨w.heap.size, 6, none⟩ = w0.cell? ⟨w.heap.size, 6, none⟩ from rfl, h4] at h3
    simp only [Option.some.injEq, Value.pointer.injEq, Value.bool.injEq] at h1 h3
    rw [← h1, ← h3]
    exact ⟨d, rfl, Nat.le_of_lt hd, hblk, below_drewN hb k⟩

set_option maxRecDepth 20000 in
theorem Parse_blank (pb : Nat) (l : List UInt8) (w : World) (hl : ∀ c ∈ l, c = 32 ∨ c = 9 ∨ c = 10 ∨ c = 13) (hlen : l.length ≤ 1000000) (hp : w.cell? ⟨pb, 2, none⟩ = some (.bool false)) :
    Calls Tryz.prog 29 #[.pointer (some ⟨pb, 0, none⟩), .string ⟨l.toArray⟩] w fun e w' => ∃ d, e = .returned (.pointer (some ⟨d, 0, none⟩)) ∧ w.heap.size ≤ d ∧ Blk w' d 339 #[.int .i64 0, .int .i64 0, .slice none 0 0, .map none] ∧ Below w.heap.size w w' := by
  go_enter Tryz.func29, Tryz.ntmps29
  go_wp2_with (go_at_call 43; refine (parse_blank pb l w hl hlen hp).mono ?_; rintro e w1 ⟨d, rfl, hd, hblk, hb⟩)
  go_ret
  exact ⟨d, rfl, hd, hblk, hb⟩

set_option maxRecDepth 20000 in
set_option maxHeartbeats 800000 in
theorem docHTML_empty (d b : Nat) (w : World) (hblk : Blk w d 339 #[.int .i64 0, .int .i64 0, .slice none 0 0, .map none]) :
    Calls Tryz.prog 236 #[.pointer (some ⟨d, 0, none⟩), .pointer (some ⟨b, 0, none⟩)] w fun e w' => e = .returned (.tuple #[]) ∧ w = w' := by
  have c2 : w.cell? ⟨d, 2, none⟩ = some (.slice none 0 0) := by rw [hblk.cell]; rfl
  go_enter Tryz.func236, Tryz.ntmps236
  go_wp2
  go_rounds 1
  go_end0
  exact ⟨rfl, rfl⟩

theorem conv_nil (w : World) : (convert 56 9 (.slice none 0 0)).run Tryz.prog w = .ok (.string ⟨#[]⟩) w := by kernel_rfl
set_option maxRecDepth 20000 in
set_option maxHeartbeats 800000 in
theorem bufString_empty (b : Nat) (w : World) (h0 : w.cell? ⟨b, 0, none⟩ = some (.slice none 0 0)) (h1 : w.cell? ⟨b, 1, none⟩ = some (.int .i64 0)) :
    Calls Tryz.prog 42 #[.pointer (some ⟨b, 0, none⟩)] w fun e w' => e = .returned (.string ⟨#[]⟩) ∧ ∃ n, w' = w.drewN n := by
  have kc := conv_nil
  go_enter Tryz.func42, Tryz.ntmps42
  go_wp2
  go_quiet (fail)
  go_wp2
  go_ret
  exact ⟨rfl, _, rfl⟩

set_option maxRecDepth 20000 in
set_option maxHeartbeats 800000 in
theorem toHTML_empty (d : Nat) (w : World) (hblk : Blk w d 339 #[.int .i64 0, .int .i64 0, .slice none 0 0, .map none]) :
    Calls Tryz.prog 27 #[.iface 47 (.pointer (some ⟨d, 0, none⟩))] w fun e w' => e = .returned (.string ⟨#[]⟩) ∧ Below w.heap.size w w' := by
  have hd := hblk.lt
  go_enter Tryz.func27, Tryz.ntmps27
  go_wp2_with (first | (go_at_call 236; refine (docHTML_empty d w.heap.size _ (Blk.alloc hblk _)).mono ?_; rintro e w' ⟨rfl, rfl⟩))
  refine (bufString_empty w.heap.size _ (by simp [go_sem]) (by simp [go_sem])).mono ?_
  rintro e w1 ⟨rfl, n, rfl⟩
  go_wp2_with fail
  go_ret
  exact ⟨rfl, below_drewN ((Below.refl _ _).alloc (Nat.le_refl _) _) n⟩

set_option maxRecDepth 20000 in
theorem HTML_blank (l : List UInt8) (w : World) (hl : ∀ c ∈ l, c = 32 ∨ c = 9 ∨ c = 10 ∨ c = 13) (hlen : l.length ≤ 1000000) :
    Calls Tryz.prog 11 #[plainO.v, .string ⟨l.toArray⟩] w fun e w' => e = .returned (.string ⟨#[]⟩) ∧ Below w.heap.size w w' := by
  have hv : plainO.v = .agg #[.bool false, .bool false, .bool false, .bool false, .bool false, .bool false, .bool false, .bool false, .bool false, .bool false] := rfl
  rw [hv]
  have HL := hid hl
  clear hl
  go_enter Tryz.func11, Tryz.ntmps11
  go_wp2_with fail
  refine (parser_any plainO _).mono ?_
  rintro e w1 ⟨g, rfl, hg, hblk, hb⟩
  have HB := hid hb
  have HBL := hid hblk
  have hp : w1.cell? ⟨g, 2, none⟩ = some (.bool false) := by rw [hblk.cell]; rfl
  clear hblk hb
  go_wp2_with fail
  refine (Parse_blank g l _ HL.out hlen hp).mono ?_
  rintro e w2 ⟨d, rfl, hd, hblk2, hb2⟩
  have HB2 := hid hb2
  clear hb2
  go_wp2_with fail
  refine (toHTML_empty d _ hblk2).mono ?_
  rintro e w3 ⟨rfl, hb3⟩
  have HB3 := hid hb3
  clear hb3
  go_wp2_with fail
  go_ret
  exact ⟨rfl, ((((Below.refl _ _).alloc (Nat.le_refl _) _).trans (HB.out.mono (by simp))).trans (HB2.out.mono (Nat.le_trans (by simp) HB.out.size))).trans (HB3.out.mono (Nat.le_trans (Nat.le_trans (by simp) HB.out.size) HB2.out.size))⟩

end Go.Proofs.YtmmijmhdbpldpaaGreatDoor
/- Lines put together with line feeds, and taken apart again, in plain Lean. -/

namespace Go.Proofs.YtmmijmhdbpldpaaGreatDoor
open Go.RowKit
/-- Lines, a line feed between. -/
def joinL : List (List UInt8) → List UInt8
  | [] => []
  | [a] => a
  | a :: b :: t => a ++ 10 :: joinL (b :: t)
theorem joinL_cons (a : List UInt8) (t : List (List UInt8)) (h : t ≠ []) : joinL (a :: t) = a ++ 10 :: joinL t := by
  cases t with
  | nil => exact absurd rfl h
  | cons b t => rfl
theorem idx_append (a rest : List UInt8) (c : UInt8) (h : c ∉ a) : idxB c (a ++ c :: rest) = a.length := by
  refine idxB_at _ _ _ (fun j hj he => ?_) ?_
  · rw [List.getElem?_append_left hj] at he
    exact h (List.mem_of_getElem? he)
  · rw [List.getElem?_append_right (Nat.le_refl _), Nat.sub_self]; rfl
theorem nextLine_cut (a rest : List UInt8) (h10 : 10 ∉ a) (h13 : 13 ∉ a) (hr : 13 ∉ rest) : nextLine (a ++ 10 :: rest) = (a, 10, rest) := by
  have h1 : idxB 10 (a ++ 10 :: rest) = a.length := idx_append a rest 10 h10
  have h2 : idxB 13 (a ++ 10 :: rest) = -1 := idxB_not _ _ (by
    intro hm
    rcases List.mem_append.1 hm with h | h
    · exact h13 h
    · rcases List.mem_cons.1 h with h | h
      · cases h
      · exact hr h)
  unfold nextLine
  rw [h1, h2, if_neg (by omega), if_pos (by omega)]
  have e1 : ((a.length : Int)).toNat = a.length := by omega
  rw [e1]
  refine Prod.ext ?_ (Prod.ext rfl ?_)
  · exact List.take_left' rfl
  · show List.drop (a.length + 1) (a ++ 10 :: rest) = rest
    rw [show a ++ 10 :: rest = (a ++ [10]) ++ rest by simp]
    exact List.drop_left' (by simp)
theorem nextLine_last (a : List UInt8) (h10 : 10 ∉ a) (h13 : 13 ∉ a) : nextLine a = (a, 0, []) := by
  unfold nextLine
  rw [idxB_not a 13 h13, idxB_not a 10 h10]
  rfl
theorem joinL_not (t : List (List UInt8)) (c : UInt8) (hc : c ≠ 10) (h : ∀ a ∈ t, c ∉ a) : c ∉ joinL t := by
  induction t with
  | nil => simp [joinL]
  | cons a t ih =>
    by_cases ht : t = []
    · subst ht
      exact h a (List.mem_cons_self ..)
    · rw [joinL_cons a t ht]
      intro hm
      rcases List.mem_append.1 hm with h1 | h1
      · exact h a (List.mem_cons_self ..) h1
      · rcases List.mem_cons.1 h1 with h1 | h1
        · exact hc h1
        · exact ih (fun b hb => h b (List.mem_cons_of_mem _ hb)) h1
end Go.Proofs.YtmmijmhdbpldpaaGreatDoor
/- A line without tabs: what its small methods do. -/



namespace Go.Proofs.YtmmijmhdbpldpaaGreatDoor
open Go.RowKit
/-- The cells of a line with no pending spaces. -/
def lnC (i : Nat) (tb : Int) (s : ByteArray) (nl : Int) : Array Value := #[.int .i64 0, .int .i64 i, .int .i64 tb, .string s, .int .u8 nl]
def IsLn (w : World) (g i : Nat) (tb : Int) (s : ByteArray) (nl : Int) : Prop := Blk w g 104 (lnC i tb s nl)
namespace IsLn
variable {w w' : World} {g i : Nat} {tb nl : Int} {s : ByteArray} {S : Nat → Prop}
theorem c0 (h : IsLn w g i tb s nl) : w.cell? ⟨g, 0, none⟩ = some (.int .i64 0) := Blk.at_ h 0 rfl
theorem c1 (h : IsLn w g i tb s nl) : w.cell? ⟨g, 1, none⟩ = some (.int .i64 i) := Blk.at_ h 1 rfl
theorem c2 (h : IsLn w g i tb s nl) : w.cell? ⟨g, 2, none⟩ = some (.int .i64 tb) := Blk.at_ h 2 rfl
theorem c3 (h : IsLn w g i tb s nl) : w.cell? ⟨g, 3, none⟩ = some (.string s) := Blk.at_ h 3 rfl
theorem c4 (h : IsLn w g i tb s nl) : w.cell? ⟨g, 4, none⟩ = some (.int .u8 nl) := Blk.at_ h 4 rfl
theorem set1 (h : IsLn w g i tb s nl) (j : Nat) : IsLn (w.setCell ⟨g, 1, none⟩ (.int .i64 j)) g j tb s nl := Blk.set_ h 1 _
theorem drewN (h : IsLn w g i tb s nl) (n : Nat) : IsLn (w.drewN n) g i tb s nl := h
theorem mod (h : IsLn w g i tb s nl) (hm : Mod S w w') (hn : ¬ S g) : IsLn w' g i tb s nl := Blk.mod h hm hn
end IsLn
theorem IsLn.store {w : World} {g i : Nat} {tb nl : Int} {s : ByteArray} (h : IsLn w g i tb s nl) (j : Nat) : IsLn (((((w.setCell ⟨g, 0, none⟩ (.int .i64 0)).setCell ⟨g, 1, none⟩ (.int .i64 j)).setCell ⟨g, 2, none⟩ (.int .i64 tb)).setCell ⟨g, 3, none⟩ (.string s)).setCell ⟨g, 4, none⟩ (.int .u8 nl)) g j tb s nl := by
  have h' := (((((Blk.set_ h 0 (.int .i64 0)).set_ 1 (.int .i64 j)).set_ 2 (.int .i64 tb)).set_ 3 (.string s)).set_ 4 (.int .u8 nl))
  simpa [lnC, IsLn] using h'
set_option maxHeartbeats 400000 in
theorem peek_any (g i : Nat) (tb nl : Int) (s : ByteArray) (w : World) (h : IsLn w g i tb s nl) (_ : s.size ≤ 140737488355328) :
    Calls Tryz.prog 175 #[.pointer (some ⟨g, 0, none⟩)] w fun e w' => e = .returned (.int .u8 (bt s i)) ∧ ∃ n, w' = w.drewN n := by
  have h0 := h.c0
  have h1 := h.c1
  have h3 := h.c3
  have hb := get_bt s
  clear h
  by_cases hi : i < s.size
  · go_enter Tryz.func175, Tryz.ntmps175
    go_wp2
    go_quiet (fail)
    go_wp2
    go_quiet (fail)
    go_wp2
    go_ret
    exact ⟨rfl, _, World.drewN_drewN _ _ _⟩
  · have hz : bt s i = 0 := by unfold bt; rw [dif_neg hi]
    rw [hz]
    go_enter Tryz.func175, Tryz.ntmps175
    go_wp2
    go_quiet (fail)
    go_wp2
    go_ret
    exact ⟨rfl, _, rfl⟩
set_option maxHeartbeats 400000 in
theorem eof_any (g i : Nat) (tb nl : Int) (s : ByteArray) (w : World) (h : IsLn w g i tb s nl) (_ : s.size ≤ 140737488355328) :
    Calls Tryz.prog 177 #[.pointer (some ⟨g, 0, none⟩)] w fun e w' => e = .returned (.bool (decide (s.size ≤ i))) ∧ ∃ n, w' = w.drewN n := by
  have h1 := h.c1
  have h3 := h.c3
  clear h
  go_enter Tryz.func177, Tryz.ntmps177
  go_wp2
  go_quiet (fail)
  go_wp2
  go_ret
  refine ⟨ret_bool ?_, _, rfl⟩
  simp
set_option maxHeartbeats 800000 in
theorem trim_yes (g i : Nat) (c tb nl : Int) (s : ByteArray) (w : World) (h : IsLn w g i tb s nl) (hs : s.size ≤ 140737488355328) (hi : i < s.size) (hc : bt s i = c) :
    Calls Tryz.prog 173 #[.pointer (some ⟨g, 0, none⟩), .int .u8 c] w fun e w' => e = .returned (.bool true) ∧ IsLn w' g (i + 1) tb s nl ∧ Mod (fun k => k = g) w w' := by
  have h0 := h.c0
  have h1 := h.c1
  have h3 := h.c3
  have f1 := Blk.free h 1
  have hb := get_bt s
  have H := hid h
  clear h
  subst hc
  go_enter Tryz.func173, Tryz.ntmps173
  go_wp2
  go_quiet (fail)
  go_wp2
  go_ret
  exact ⟨rfl, (H.out.drewN _).set1 (i + 1), ((Mod.refl (fun k => k = g) w).drewN _).setCell (.inl rfl) _⟩
set_option maxHeartbeats 800000 in
theorem trim_no (g i : Nat) (c tb nl : Int) (s : ByteArray) (w : World) (h : IsLn w g i tb s nl) (_ : s.size ≤ 140737488355328) (hc : s.size ≤ i ∨ bt s i ≠ c) :
    Calls Tryz.prog 173 #[.pointer (some ⟨g, 0, none⟩), .int .u8 c] w fun e w' => e = .returned (.bool false) ∧ ∃ n, w' = w.drewN n := by
  have h0 := h.c0
  have h1 := h.c1
  have h3 := h.c3
  have hb := get_bt s
  clear h
  by_cases hi : i < s.size
  · have hb2 : (bt s i == c) = false := by rcases hc with hc | hc; (· omega); simpa using hc
    go_enter Tryz.func173, Tryz.ntmps173
    go_wp2
    go_quiet (fail)
    go_wp2
    go_ret
    exact ⟨rfl, _, rfl⟩
  · clear hc
    go_enter Tryz.func173, Tryz.ntmps173
    go_wp2
    go_quiet (fail)
    go_wp2
    go_ret
    exact ⟨rfl, _, rfl⟩
/-- Space or tab. -/
def stAt (s : ByteArray) (k : Nat) : Prop := bt s k = 32 ∨ bt s k = 9
def SkipR (g i : Nat) (tb nl : Int) (s : ByteArray) (w0 wr : World) : Prop :=
  ∃ j, i ≤ j ∧ j ≤ s.size ∧ (∀ k, i ≤ k → k < j → stAt s k) ∧ IsLn wr g j tb s nl ∧ Mod (fun k => k = g) w0 wr
def SkipP (g i : Nat) (tb nl : Int) (s : ByteArray) (w0 wr : World) : Prop :=
  ∃ j, i ≤ j ∧ j ≤ s.size ∧ (∀ k, i ≤ k → k < j → stAt s k) ∧ (j < s.size → ¬ stAt s j) ∧ IsLn wr g j tb s nl ∧ Mod (fun k => k = g) w0 wr
/-- The line's index, read off the world. -/
def lnI (w : World) (g : Nat) : Nat := match w.cell? ⟨g, 1, none⟩ with
  | some v => (intOf v).toNat
  | none => 0
theorem lnI_of {w : World} {g i : Nat} {tb nl : Int} {s : ByteArray} (h : IsLn w g i tb s nl) : lnI w g = i := by
  unfold lnI; rw [h.c1]; simp [intOf]
set_option maxHeartbeats 1600000 in
theorem skip_any (g i : Nat) (tb nl : Int) (s : ByteArray) (w : World) (h : IsLn w g i tb s nl) (hs : s.size ≤ 140737488355328) (hi : i ≤ s.size) :
    Calls Tryz.prog 176 #[.pointer (some ⟨g, 0, none⟩)] w fun e w' => e = .returned (.tuple #[]) ∧ SkipP g i tb nl s w w' := by
  have h0 := h.c0
  have f0 := Blk.free h 0
  have H := hid h
  have hb := get_bt s
  clear h
  go_enter Tryz.func176, Tryz.ntmps176
  go_wp2_with fail
  go_loopw [] (fun wr => SkipR g i tb nl s w wr) (fun wr => s.size - lnI wr g)
  case atStart => exact ⟨i, Nat.le_refl _, hi, fun k h1 h2 => absurd h1 (by omega), Blk.set_ H.out 0 _, (Mod.refl (fun k => k = g) w).setCell (.inl rfl) _⟩
  case round =>
    obtain ⟨j, hij, hjs, hst, hln, hm⟩ := hrel
    have h1 := hln.c1
    have h3 := hln.c3
    have f1 := Blk.free hln 1
    have HST := hid hst
    have HLN := hid hln
    have HM := hid hm
    clear hst hln hm
    by_cases hlt : j < s.size
    · by_cases hsp : stAt s j
      · have fin : ∀ n, SkipR g i tb nl s w ((wr.drewN n).setCell ⟨g, 1, none⟩ (.int .i64 ((j : Int) + 1))) := fun n =>
          ⟨j + 1, by omega, by omega, fun k h1 h2 => by
            rcases Nat.lt_or_ge k j with h | h
            · exact HST.out k h1 h
            · obtain rfl : k = j := by omega
              exact hsp, (HLN.out.drewN n).set1 (j + 1), (HM.out.drewN n).setCell (.inl rfl) _⟩
        have mea : ∀ n, lnI ((wr.drewN n).setCell ⟨g, 1, none⟩ (.int .i64 ((j : Int) + 1))) g = j + 1 := fun n => lnI_of ((HLN.out.drewN n).set1 (j + 1))
        have mea0 := lnI_of HLN.out
        have FIN := hid fin
        have ME := hid mea
        have ME0 := hid mea0
        clear fin mea mea0
        rcases hsp with hsp | hsp
        · go_wp2_with fail
          go_quiet (fail)
          go_wp2
          go_roundw
          case rel => exact FIN.out _
          case measure => rw [ME.out, ME0.out]; omega
        · go_wp2_with fail
          go_quiet (fail)
          go_wp2
          go_roundw
          case rel => exact FIN.out _
          case measure => rw [ME.out, ME0.out]; omega
      · have b1 : (bt s j == 32) = false := by simpa using fun h => hsp (.inl h)
        have b2 : (bt s j == 9) = false := by simpa using fun h => hsp (.inr h)
        go_wp2_with fail
        go_quiet (fail)
        go_wp2
        go_end0
        exact ⟨rfl, j, hij, hjs, HST.out, fun _ => hsp, HLN.out.drewN _, HM.out.drewN _⟩
    · go_wp2_with fail
      go_quiet (fail)
      go_wp2
      go_end0
      exact ⟨rfl, j, hij, hjs, HST.out, fun h => absurd h hlt, HLN.out.drewN _, HM.out.drewN _⟩
def TrimR (g b i mx : Nat) (eol : Bool) (tb nl : Int) (s : ByteArray) (w0 : World) (t10 : Value) (wr : World) : Prop :=
  ∃ n j : Nat, t10 = .int .i64 n ∧ n ≤ mx ∧ i ≤ j ∧ j ≤ i + n ∧ j ≤ s.size ∧ (∀ k, i ≤ k → k < j → bt s k = 32) ∧ (n = j - i ∨ (eol = true ∧ j = s.size)) ∧ IsLn wr b j tb s nl ∧ IsLn wr g i tb s nl ∧ Mod (fun k => k = g) w0 wr
/-- How many spaces are trimmed, and whether that is enough. -/
def TrimP (g i mn mx : Nat) (eol : Bool) (tb nl : Int) (s : ByteArray) (w0 : World) (e : Ending) (wr : World) : Prop :=
  ∃ j : Nat, i ≤ j ∧ j ≤ i + mx ∧ j ≤ s.size ∧ (∀ k, i ≤ k → k < j → bt s k = 32) ∧ (j < i + mx → j < s.size → bt s j ≠ 32) ∧
    ((e = .returned (.bool true) ∧ (mn ≤ j - i ∨ mx ≤ j - i ∨ (eol = true ∧ j = s.size)) ∧ IsLn wr g j tb s nl) ∨ (e = .returned (.bool false) ∧ j - i < mn ∧ j - i < mx ∧ (eol = false ∨ j < s.size) ∧ IsLn wr g i tb s nl)) ∧ Mod (fun k => k = g) w0 wr
set_option maxHeartbeats 1600000 in
theorem trimSp_any (g i mn mx : Nat) (eol : Bool) (tb nl : Int) (s : ByteArray) (w : World) (h : IsLn w g i tb s nl) (hs : s.size ≤ 140737488355328) (hi : i ≤ s.size) (ht : ∀ k, bt s k ≠ 9) (_ : mn ≤ 100) (hmx : mx ≤ 100) :
    Calls Tryz.prog 143 #[.pointer (some ⟨g, 0, none⟩), .int .i64 mn, .int .i64 mx, .bool eol] w (TrimP g i mn mx eol tb nl s w) := by
  have hlt := Blk.lt h
  have h0 := h.c0
  have h1 := h.c1
  have h2 := h.c2
  have h3 := h.c3
  have h4 := h.c4
  have H := hid h
  have hb := get_bt s
  have HT := hid ht
  clear h ht
  go_enter Tryz.func143, Tryz.ntmps143
  go_wp2_with fail
  go_loopw [10] (fun t10 wr => TrimR g w.heap.size i mx eol tb nl s w t10 wr) (fun t10 _ => mx - (intOf t10).toNat)
  case atStart => exact ⟨0, i, rfl, Nat.zero_le _, Nat.le_refl _, Nat.le_refl _, hi, fun k h1 h2 => absurd h1 (by omega), .inl (by omega), Blk.new' rfl, Blk.alloc H.out _, (Mod.refl (fun k => k = g) w).alloc _⟩
  case round =>
    obtain ⟨n, j, rfl, hnm, hij, hjn, hjs, hsp, hor, hlb, hlg, hm⟩ := hrel
    clear h0 h1 h2 h3 h4
    have b0 := hlb.c0
    have b1 := hlb.c1
    have b2 := hlb.c2
    have b3 := hlb.c3
    have b4 := hlb.c4
    have fb := Blk.free hlb
    have g0 := hlg.c0
    have g1 := hlg.c1
    have g2 := hlg.c2
    have g3 := hlg.c3
    have g4 := hlg.c4
    have fg := Blk.free hlg
    have hne : g ≠ w.heap.size := by omega
    have hne2 : w.heap.size ≠ g := by omega
    have HLB := hid hlb
    have HLG := hid hlg
    have HM := hid hm
    have HSP := hid hsp
    clear hlb hlg hm hsp
    by_cases hn : n < mx
    · by_cases hj : j < s.size
      · have hnj : n = j - i := by rcases hor with h | h <;> omega
        by_cases h32 : bt s j = 32
        · go_wp2
          refine ⟨⟨n + 1, j + 1, by go_num, by omega, by omega, by omega, by omega, fun k h1 h2 => ?_, .inl (by omega), HLB.out.set1 (j + 1), Blk.far HLG.out hne _, HM.out.setCell (.inr (Nat.le_refl _)) _⟩, by simp [intOf]; omega⟩
          rcases Nat.lt_or_ge k j with h | h
          · exact HSP.out k h1 h
          · obtain rfl : k = j := by omega
            exact h32
        · have c32 : (bt s j == 32) = false := by simpa using h32
          have c9 : (bt s j == 9) = false := by simpa using HT.out j
          by_cases hmin : mn ≤ n
          · go_wp2
            go_ret
            exact ⟨j, hij, by omega, hjs, HSP.out, fun _ _ => h32, .inl ⟨rfl, .inl (by omega), HLG.out.store j⟩, (((((HM.out.setCell (.inl rfl) _).setCell (.inl rfl) _).setCell (.inl rfl) _).setCell (.inl rfl) _).setCell (.inl rfl) _)⟩
          · go_wp2
            go_ret
            exact ⟨j, hij, by omega, hjs, HSP.out, fun _ _ => h32, .inr ⟨rfl, by omega, by omega, .inr hj, HLG.out⟩, HM.out⟩
      · cases eol with
        | true =>
          go_wp2
          exact ⟨⟨n + 1, j, by go_num, by omega, hij, by omega, hjs, HSP.out, .inr ⟨rfl, by omega⟩, HLB.out, HLG.out, HM.out⟩, by simp [intOf]; omega⟩
        | false =>
          have hnj : n = j - i := by rcases hor with h | h; (· exact h); cases h.1
          by_cases hmin : mn ≤ n
          · go_wp2
            go_ret
            exact ⟨j, hij, by omega, hjs, HSP.out, fun _ h => absurd h hj, .inl ⟨rfl, .inl (by omega), HLG.out.store j⟩, (((((HM.out.setCell (.inl rfl) _).setCell (.inl rfl) _).setCell (.inl rfl) _).setCell (.inl rfl) _).setCell (.inl rfl) _)⟩
          · go_wp2
            go_ret
            exact ⟨j, hij, by omega, hjs, HSP.out, fun _ h => absurd h hj, .inr ⟨rfl, by omega, by omega, .inl rfl, HLG.out⟩, HM.out⟩
    · go_wp2
      go_ret
      exact ⟨j, hij, by omega, hjs, HSP.out, fun h1 h2 => by rcases hor with h | h <;> omega, .inl ⟨rfl, by rcases hor with h | h; (· exact .inr (.inl (by omega))); exact .inr (.inr h), HLG.out.store j⟩, (((((HM.out.setCell (.inl rfl) _).setCell (.inl rfl) _).setCell (.inl rfl) _).setCell (.inl rfl) _).setCell (.inl rfl) _)⟩
end Go.Proofs.YtmmijmhdbpldpaaGreatDoor
/- A thematic break's line is known as one. -/

namespace Go.Proofs.YtmmijmhdbpldpaaGreatDoor
open Go.RowKit
/-- How many bytes c lie in [a, b). -/
def cntB (s : ByteArray) (c : Int) (a : Nat) : Nat → Nat
  | 0 => 0
  | b + 1 => cntB s c a b + (if a ≤ b ∧ bt s b = c then 1 else 0)
theorem cntB_skip (s : ByteArray) (c : Int) (a p : Nat) : ∀ q, p ≤ q → (∀ k, p ≤ k → k < q → bt s k ≠ c) → cntB s c a q = cntB s c a p := by
  intro q
  induction q with
  | zero => intro h _; obtain rfl : p = 0 := by omega
            rfl
  | succ q ih =>
    intro h hn
    rcases Nat.lt_or_ge q p with h1 | h1
    · obtain rfl : p = q + 1 := by omega
      rfl
    · show cntB s c a q + _ = _
      rw [ih h1 (fun k a b => hn k a (by omega)), if_neg (fun e => hn q h1 (by omega) e.2)]
      rfl
theorem cntB_one (s : ByteArray) (c : Int) (a p : Nat) (h : a ≤ p) (hc : bt s p = c) : cntB s c a (p + 1) = cntB s c a p + 1 := by
  show _ + (if _ then 1 else 0) = _
  rw [if_pos ⟨h, hc⟩]
theorem cntB_self (s : ByteArray) (c : Int) (a : Nat) : cntB s c a a = 0 := by
  have h : ∀ b, b ≤ a → cntB s c a b = 0 := by
    intro b
    induction b with
    | zero => intro _; rfl
    | succ b ih =>
      intro h
      show cntB s c a b + _ = 0
      rw [ih (by omega), if_neg (by omega)]
  exact h a (Nat.le_refl _)
def HRR (b j : Nat) (c tb nl : Int) (s : ByteArray) (B : Nat) (w0 : World) (t5 : Value) (wr : World) : Prop :=
  ∃ p : Nat, j ≤ p ∧ p ≤ s.size ∧ t5 = .int .i64 (cntB s c j p) ∧ (p < s.size → bt s p = c) ∧ cntB s c j p ≤ p ∧ IsLn wr b p tb s nl ∧ Below B w0 wr
set_option maxHeartbeats 1600000 in
theorem isHR_yes (i j : Nat) (c tb nl : Int) (s : ByteArray) (w : World) (hs : s.size ≤ 140737488355328) (hij : i ≤ j) (hj3 : j ≤ i + 3) (hsp : ∀ k, i ≤ k → k < j → bt s k = 32) (hjs : j < s.size) (hc : bt s j = c) (hcc : c = 42 ∨ c = 45 ∨ c = 95)
    (hall : ∀ k, j ≤ k → k < s.size → bt s k = c ∨ bt s k = 32) (ht : ∀ k, bt s k ≠ 9) (h3 : 3 ≤ cntB s c j s.size) :
    Calls Tryz.prog 137 #[.agg #[.int .i64 0, .int .i64 i, .int .i64 tb, .string s, .int .u8 nl]] w fun e w' => e = .returned (.bool true) ∧ Below w.heap.size w w' := by
  have HSP := hid hsp
  have HALL := hid hall
  have HT := hid ht
  have HC := hid hc
  have H3 := hid h3
  clear hsp hall ht hc h3
  go_enter Tryz.func137, Tryz.ntmps137
  go_wp2_with fail
  refine (trimSp_any _ i 0 3 false tb nl s _ (Blk.new' (by simp)) hs (by omega) HT.out (by omega) (by omega)).mono ?_
  rintro e w1 ⟨j', h1, h2, h3, h4, h5, h6, hm⟩
  have hjj : j' = j := by
    rcases Nat.lt_trichotomy j' j with h | h | h
    · exact absurd (HSP.out j' h1 h) (h5 (by omega) (by omega))
    · exact h
    · have := h4 j hij h
      rw [HC.out] at this
      omega
  subst hjj
  rcases h6 with ⟨rfl, _, hln⟩ | ⟨_, hbad, _⟩
  · have HLN := hid hln
    have HM := hid hm
    clear hln hm h4 h5
    go_wp2_with fail
    refine (peek_any _ j' tb nl s _ HLN.out hs).mono ?_
    rintro e w2 ⟨rfl, n2, rfl⟩
    rw [HC.out]
    have hbel : Below w.heap.size w (w1.drewN n2) := below_drewN ((((Below.refl _ _).alloc (Nat.le_refl _) _).alloc (by simp) _).trans (Mod.toBelow HM.out (by simp; omega) (fun k hk h => by omega))) n2
    have hln2 : IsLn (w1.drewN n2) (w.heap.size + 1) j' tb s nl := HLN.out.drewN n2
    have hlt := Blk.lt hln2
    clear HM HLN
    generalize w1.drewN n2 = wa at hbel hln2 hlt ⊢
    have HB := hid hbel
    have HL := hid hln2
    clear hbel hln2
    rcases hcc with rfl | rfl | rfl
    all_goals
      go_wp2_with fail
      go_loopw [5] (fun t5 wr => HRR (w.heap.size + 1) j' _ tb nl s w.heap.size w t5 wr) (fun _ wr => s.size - lnI wr (w.heap.size + 1))
      case atStart => exact ⟨j', Nat.le_refl _, by omega, by rw [cntB_self]; rfl, fun _ => HC.out, by rw [cntB_self]; omega, HL.out, HB.out⟩
      case round =>
        obtain ⟨p, hjp, hps, rfl, hpc, hcp, hln, hb⟩ := hrel
        have HLN := hid hln
        have HB1 := hid hb
        have HPC := hid hpc
        clear hln hb hpc
        by_cases hp : p < s.size
        · go_wp2_with fail
          refine (trim_yes _ p _ tb nl s _ HLN.out hs hp (HPC.out hp)).mono ?_
          rintro e w3 ⟨rfl, hl3, hm3⟩
          have HL3 := hid hl3
          have HM3 := hid hm3
          clear hl3 hm3
          go_wp2_with fail
          refine (skip_any _ (p + 1) tb nl s _ HL3.out hs (by omega)).mono ?_
          rintro e w4 ⟨rfl, q, h1q, h2q, h3q, h4q, hl4, hm4⟩
          have hcnt := (cntB_skip s _ j' (p + 1) q h1q (fun k a b e => by rcases h3q k a b with h | h <;> rw [h] at e <;> cases e)).trans (cntB_one s _ j' p hjp (HPC.out hp))
          have hq := fun h : q < s.size => (HALL.out q (by omega) h).resolve_right (fun e => h4q h (.inl e))
          have HQ := hid hq
          have HL4 := hid hl4
          have HM4 := hid hm4
          clear hq hl4 hm4 h3q h4q
          go_wp2_with fail
          go_roundw
          case rel => exact ⟨q, by omega, h2q, by rw [hcnt]; go_num, HQ.out, by omega, HL4.out, (HB1.out.trans (Mod.toBelow HM3.out (HB1.out.size) (fun k hk h => by omega))).trans (Mod.toBelow HM4.out (Nat.le_trans HB1.out.size HM3.out.size) (fun k hk h => by omega))⟩
          case measure => rw [lnI_of HL4.out, lnI_of HLN.out]; omega
        · obtain rfl : p = s.size := by omega
          have h3c := H3.out
          go_wp2_with fail
          refine (trim_no _ s.size _ tb nl s _ HLN.out hs (.inl (Nat.le_refl _))).mono ?_
          rintro e w3 ⟨rfl, n3, rfl⟩
          go_wp2_with fail
          refine (eof_any _ s.size tb nl s _ (HLN.out.drewN n3) hs).mono ?_
          rintro e w4 ⟨rfl, n4, rfl⟩
          go_wp2_with fail
          go_ret
          exact ⟨ret_bool (by simp), below_drewN HB1.out _⟩
  · omega
end Go.Proofs.YtmmijmhdbpldpaaGreatDoor
/- The texts of the law FnBreak, in plain Lean: what a thematic break's line holds. -/


namespace Go.Proofs.YtmmijmhdbpldpaaGreatDoor
open Go.RowKit
theorem cat_lists (l m : List UInt8) : (ByteArray.mk l.toArray) ++ (ByteArray.mk m.toArray) = ⟨(l ++ m).toArray⟩ := by
  apply ByteArray.ext
  simp [ByteArray.data_append]
theorem bt_list (l : List UInt8) (k : Nat) : bt ⟨l.toArray⟩ k = match l[k]? with
    | some c => (c.toNat : Int)
    | none => 0 := by
  unfold bt
  by_cases h : k < l.length
  · rw [dif_pos (by simpa [ByteArray.size] using h), List.getElem?_eq_getElem h]
    rfl
  · rw [dif_neg (by simpa [ByteArray.size] using h), List.getElem?_eq_none (by omega)]
/-- A line made of up to j spaces, then i signs c with spaces behind them. -/
def BrkL (c : UInt8) (j i : Nat) (l : List UInt8) : Prop :=
  ∃ r, l = List.replicate j 32 ++ r ∧ (∀ x ∈ r, x = c ∨ x = 32) ∧ r.count c = i ∧ (i ≠ 0 → r.head? = some c) ∧ r.length ≤ 5 * i
/-- The same, where a sign has just been laid. -/
def BrkM (c : UInt8) (j i : Nat) (l : List UInt8) : Prop :=
  ∃ r, l = List.replicate j 32 ++ r ∧ (∀ x ∈ r, x = c ∨ x = 32) ∧ r.count c = i + 1 ∧ r.head? = some c ∧ r.length ≤ 5 * i + 1
theorem while_nil (p : UInt8 → Bool) : ∀ l : List UInt8, l.dropWhile p = [] → ∀ x ∈ l, p x = true := by
  intro l
  induction l with
  | nil => intro _ x hx; cases hx
  | cons a l ih =>
    intro h x hx
    rw [List.dropWhile_cons] at h
    by_cases ha : p a = true
    · rw [if_pos ha] at h
      rcases List.mem_cons.1 hx with e | e
      · rw [e]; exact ha
      · exact ih h x e
    · rw [if_neg ha] at h
      cases h
theorem brk_zero (c : UInt8) (j : Nat) : BrkL c j 0 (List.replicate j 32) := ⟨[], by simp, by simp, by simp, by simp, by simp⟩
theorem brk_sign {c : UInt8} {j i : Nat} {l : List UInt8} (h : BrkL c j i l) : BrkM c j i (l ++ [c]) := by
  obtain ⟨r, rfl, h1, h2, h3, h4⟩ := h
  refine ⟨r ++ [c], by simp, ?_, by simp [h2], ?_, by simp; omega⟩
  · intro x hx
    rcases List.mem_append.1 hx with hx | hx
    · exact h1 x hx
    · simp at hx; exact .inl hx
  · cases r with
    | nil => rfl
    | cons a r =>
      have hi : i ≠ 0 := by
        intro h0
        subst h0
        have := h4
        simp at this
      simpa using h3 hi
theorem brk_done {c : UInt8} {j i : Nat} {l : List UInt8} (h : BrkM c j i l) (hc : c ≠ 32) (n : Nat) (hn : n ≤ 4) : BrkL c j (i + 1) (l ++ List.replicate n 32) := by
  obtain ⟨r, rfl, h1, h2, h3, h4⟩ := h
  refine ⟨r ++ List.replicate n 32, by simp, ?_, ?_, ?_, by simp; omega⟩
  · intro x hx
    rcases List.mem_append.1 hx with hx | hx
    · exact h1 x hx
    · exact .inr (List.eq_of_mem_replicate hx)
  · rw [List.count_append, h2, List.count_replicate]
    simp [Ne.symm hc]
  · intro _
    cases r with
    | nil => simp at h3
    | cons a r => simpa using h3
theorem cnt_list (c : UInt8) (p r : List UInt8) : ∀ m, m ≤ r.length → cntB ⟨(p ++ r).toArray⟩ (c.toNat : Int) p.length (p.length + m) = (r.take m).count c := by
  intro m
  induction m with
  | zero => intro _; rw [Nat.add_zero, cntB_self]; simp
  | succ m ih =>
    intro h
    rw [← Nat.add_assoc]
    show cntB _ _ _ (p.length + m) + _ = _
    rw [ih (by omega), List.take_add_one, List.count_append, List.getElem?_eq_getElem (by omega : m < r.length)]
    congr 1
    have hb : bt ⟨(p ++ r).toArray⟩ (p.length + m) = ((r[m]'(by omega)).toNat : Int) := by
      rw [bt_list, List.getElem?_append_right (by omega), show p.length + m - p.length = m from by omega, List.getElem?_eq_getElem (by omega : m < r.length)]
    rw [hb]
    by_cases he : r[m] = c
    · rw [if_pos ⟨by omega, by rw [he]⟩]
      simp [he]
    · rw [if_neg (fun x => he (UInt8.toNat_inj.1 (by have := x.2; omega)))]
      simp [he]
/-- What the functions ask of such a line. -/
structure HRLine (l : List UInt8) (j : Nat) (c : Int) : Prop where
  j3 : j ≤ 3
  sp : ∀ k, 0 ≤ k → k < j → bt ⟨l.toArray⟩ k = 32
  js : j < (ByteArray.mk l.toArray).size
  at_ : bt ⟨l.toArray⟩ j = c
  cc : c = 42 ∨ c = 45 ∨ c = 95
  all : ∀ k, j ≤ k → k < (ByteArray.mk l.toArray).size → bt ⟨l.toArray⟩ k = c ∨ bt ⟨l.toArray⟩ k = 32
  three : 3 ≤ cntB ⟨l.toArray⟩ c j (ByteArray.mk l.toArray).size
theorem brk_line {c : UInt8} {j i : Nat} {l : List UInt8} (h : BrkL c j i l) (hj : j ≤ 3) (hc : c = 42 ∨ c = 45 ∨ c = 95) (hi : 3 ≤ i) : HRLine l j (c.toNat : Int) := by
  obtain ⟨r, rfl, h1, h2, h3, h4⟩ := h
  have h3' := h3 (by omega)
  have hr : 0 < r.length := by cases r with
    | nil => simp at h3'
    | cons a r => simp
  have hsz : (ByteArray.mk (List.replicate j 32 ++ r).toArray).size = j + r.length := by simp [ByteArray.size]
  have hbr : ∀ k (hk : k < r.length), bt ⟨(List.replicate j 32 ++ r).toArray⟩ (j + k) = (r[k].toNat : Int) := by
    intro k hk
    rw [bt_list, List.getElem?_append_right (by simp), List.length_replicate, show j + k - j = k from by omega, List.getElem?_eq_getElem hk]
  refine ⟨hj, ?_, by omega, ?_, ?_, ?_, ?_⟩
  · intro k _ hk
    rw [bt_list, List.getElem?_append_left (by simpa using hk), List.getElem?_replicate, if_pos hk]
    rfl
  · have := hbr 0 hr
    rw [Nat.add_zero] at this
    rw [this]
    cases r with
    | nil => simp at hr
    | cons a r => simp at h3'; simp [h3']
  · rcases hc with rfl | rfl | rfl
    · exact .inl rfl
    · exact .inr (.inl rfl)
    · exact .inr (.inr rfl)
  · intro k hk hs
    rw [hsz] at hs
    obtain ⟨m, rfl⟩ : ∃ m, k = j + m := ⟨k - j, by omega⟩
    rw [hbr m (by omega)]
    rcases h1 (r[m]'(by omega)) (List.getElem_mem _) with e | e
    · exact .inl (by rw [e])
    · exact .inr (by rw [e]; rfl)
  · have := cnt_list c (List.replicate j 32) r r.length (Nat.le_refl _)
    rw [List.length_replicate, List.take_length, h2] at this
    rw [hsz, this]
    exact hi
namespace HRLine
variable {l : List UInt8} {j : Nat} {c : Int}
theorem mem (h : HRLine l j c) : ∀ x ∈ l, (x.toNat : Int) = c ∨ (x.toNat : Int) = 32 := by
  intro x hx
  obtain ⟨k, hk, rfl⟩ := List.getElem_of_mem hx
  have hb : bt ⟨l.toArray⟩ k = (l[k].toNat : Int) := by rw [bt_list, List.getElem?_eq_getElem hk]
  rw [← hb]
  rcases Nat.lt_or_ge k j with h1 | h1
  · exact .inr (h.sp k (Nat.zero_le _) h1)
  · exact h.all k h1 (by simpa [ByteArray.size] using hk)
theorem not_ (h : HRLine l j c) (x : UInt8) (hx : x ≠ 42 ∧ x ≠ 45 ∧ x ≠ 95 ∧ x ≠ 32) : x ∉ l := by
  intro hm
  obtain ⟨a, b, d, e⟩ := hx
  rcases h.mem x hm with h1 | h1
  · rcases h.cc with h2 | h2 | h2
    · exact a (UInt8.toNat_inj.1 (by simp; omega))
    · exact b (UInt8.toNat_inj.1 (by simp; omega))
    · exact d (UInt8.toNat_inj.1 (by simp; omega))
  · exact e (UInt8.toNat_inj.1 (by simp; omega))
theorem bt_not (h : HRLine l j c) (x : Int) (hx : x ≠ 42 ∧ x ≠ 45 ∧ x ≠ 95 ∧ x ≠ 32 ∧ x ≠ 0) (k : Nat) : bt ⟨l.toArray⟩ k ≠ x := by
  rw [bt_list]
  obtain ⟨a, b, d, e, f⟩ := hx
  cases hk : l[k]? with
  | none => exact fun h => f h.symm
  | some y =>
    have hm : y ∈ l := List.mem_of_getElem? hk
    intro (h0 : (y.toNat : Int) = x)
    rcases h.mem y hm with h1 | h1
    · rcases h.cc with h2 | h2 | h2 <;> omega
    · omega
theorem next (h : HRLine l j c) : nextLine l = (l, 0, []) := by
  unfold nextLine
  rw [idxB_not l 13 (h.not_ 13 (by decide)), idxB_not l 10 (h.not_ 10 (by decide))]
  rfl
theorem ink (h : HRLine l j c) : (trimL l).isEmpty = false := by
  have hj : j < l.length := by have := h.js; simpa [ByteArray.size] using this
  have hb : bt ⟨l.toArray⟩ j = (l[j].toNat : Int) := by rw [bt_list, List.getElem?_eq_getElem hj]
  have h0 := h.at_
  rw [hb] at h0
  cases he : (trimL l).isEmpty with
  | false => rfl
  | true =>
    rw [List.isEmpty_iff, trimL] at he
    have hst := while_nil _ _ he l[j] (List.getElem_mem _)
    rw [isST_not (by rcases h.cc with h | h | h <;> omega) (by rcases h.cc with h | h | h <;> omega)] at hst
    cases hst
end HRLine
end Go.Proofs.YtmmijmhdbpldpaaGreatDoor
/- Lists of lines as a law has them, and the laws' small functions on them. -/




namespace Go.Proofs.YtmmijmhdbpldpaaGreatDoor
open Go.RowKit
/-- A slice whose cells are the strings L i. -/
def StrsAt (w : World) (A : Option Addr) (n : Nat) (L : Nat → List UInt8) : Prop :=
  ∀ i, i < n → ∃ ad, A = some ad ∧ ad.block < w.heap.size ∧ w.cell? (ad.add i) = some (.string ⟨(L i).toArray⟩)
theorem StrsAt.below {w w' : World} {A : Option Addr} {n : Nat} {L : Nat → List UInt8} (h : StrsAt w A n L) (hb : Below w.heap.size w w') : StrsAt w' A n L := fun i hi => by
  obtain ⟨ad, e, hlt, hc⟩ := h i hi
  exact ⟨ad, e, Nat.lt_of_lt_of_le hlt hb.size, (hb.cell (p := ad.add i) (by rw [addr_block]; exact hlt)).trans hc⟩
/-- A truth value is returned, which, where it is true, says P; the world is as it was. -/
def BoolP (P : Prop) (w : World) (e : Ending) (w' : World) : Prop := (∃ b, e = .returned (.bool b) ∧ (b = true → P)) ∧ w = w'
theorem BoolP.no {P : Prop} (w : World) : BoolP P w (.returned (.bool false)) w := ⟨⟨_, rfl, fun h => by cases h⟩, rfl⟩
theorem BoolP.yes {P : Prop} (w : World) (h : P) : BoolP P w (.returned (.bool true)) w := ⟨⟨_, rfl, fun _ => h⟩, rfl⟩
set_option maxHeartbeats 800000 in
theorem zzFits2_any (A : Option Addr) (n c : Nat) (L : Nat → List UInt8) (w : World) (hn : n ≤ 9223372036854775807) (hA : StrsAt w A n L) (hl : ∀ i, i < n → (L i).length ≤ 9223372036854775807) :
    Calls Tryz.prog 15 #[.slice A n c] w (BoolP (n ≤ 2147483647) w) := by
  have HA := hid hA
  have HL := hid hl
  clear hA hl
  by_cases h1 : (n : Int) ≤ 2147483647
  · go_enter Tryz.func15, Tryz.ntmps15
    go_wp2
    go_loop [10] (fun t10 => ∃ k : Nat, k ≤ n ∧ t10 = .int .i64 k) (fun t10 => n - (intOf t10).toNat)
    case atStart => exact ⟨0, Nat.zero_le _, rfl⟩
    case round =>
      obtain ⟨k, hk, rfl⟩ := hrel
      by_cases hlt : k < n
      · obtain ⟨ad, rfl, had, hc⟩ := HA.out k hlt
        have hlk := HL.out k hlt
        go_wp2
        · go_ret
          exact BoolP.no _
        · go_round
          case rel => exact ⟨k + 1, by omega, by go_num⟩
          case measure => simp [intOf]; omega
      · obtain rfl : k = n := by omega
        go_wp2
        go_ret
        exact BoolP.yes _ (by omega)
  · go_enter Tryz.func15, Tryz.ntmps15
    go_wp2
    go_ret
    exact BoolP.no _
theorem joinL_snoc (t : List (List UInt8)) (a : List UInt8) (h : t ≠ []) : joinL (t ++ [a]) = joinL t ++ [10] ++ a := by
  induction t with
  | nil => exact absurd rfl h
  | cons b t ih =>
    by_cases ht : t = []
    · subst ht; simp [joinL]
    · rw [List.cons_append, joinL_cons _ _ (by simp), ih ht, joinL_cons _ _ ht]
      simp
def firstL (L : Nat → List UInt8) (k : Nat) : List (List UInt8) := (List.range k).map L
theorem firstL_succ (L : Nat → List UInt8) (k : Nat) : firstL L (k + 1) = firstL L k ++ [L k] := by simp [firstL, List.range_succ]
set_option maxHeartbeats 800000 in
theorem joined_any (A : Option Addr) (n c : Nat) (L : Nat → List UInt8) (w : World) (hn : n ≤ 50) (hA : StrsAt w A n L) (hl : ∀ i, i < n → (L i).length ≤ 204) :
    Calls Tryz.prog 22 #[.slice A n c, .string ⟨#[10]⟩] w fun e w' => e = .returned (.string ⟨(joinL (firstL L n)).toArray⟩) ∧ w = w' := by
  have HA := hid hA
  have HL := hid hl
  clear hA hl
  go_enter Tryz.func22, Tryz.ntmps22
  go_wp2
  go_loop [5, 10] (fun t5 t10 => ∃ (k : Nat) (o : List UInt8), k ≤ n ∧ t10 = .int .i64 k ∧ o = joinL (firstL L k) ∧ t5 = .string ⟨o.toArray⟩ ∧ o.length ≤ 205 * k) (fun _ t10 => n - (intOf t10).toNat)
  case atStart => exact ⟨0, [], Nat.zero_le _, rfl, rfl, rfl, by simp⟩
  case round =>
    obtain ⟨k, o, hk, rfl, ho, rfl, hol⟩ := hrel
    have HO := hid ho
    clear ho
    by_cases hlt : k < n
    · obtain ⟨ad, rfl, had, hc⟩ := HA.out k hlt
      have hlk := HL.out k hlt
      by_cases hk0 : k = 0
      · subst hk0
        have hj := hid (show o ++ L 0 = joinL (firstL L (0 + 1)) by rw [HO.out]; rfl)
        have hcat := hid (cat_lists o (L 0))
        have hc0 : w.cell? ad = some (.string ⟨(L 0).toArray⟩) := by simpa [Addr.add] using hc
        go_wp2
        go_round
        case rel => exact ⟨1, o ++ L 0, by omega, rfl, hj.out, by rw [← hcat.out], by rw [List.length_append]; omega⟩
        case measure => simp [intOf]; omega
      · have hj := hid (show o ++ [10] ++ L k = joinL (firstL L (k + 1)) by rw [HO.out, firstL_succ, joinL_snoc _ _ (by simp [firstL]; omega)])
        have hcat := hid (show (ByteArray.mk o.toArray) ++ (ByteArray.mk #[10]) ++ (ByteArray.mk (L k).toArray) = ⟨(o ++ [10] ++ L k).toArray⟩ by rw [show (ByteArray.mk #[10]) = ⟨[10].toArray⟩ from rfl, cat_lists, cat_lists])
        go_wp2
        go_round
        case rel => exact ⟨k + 1, o ++ [10] ++ L k, by omega, by go_num, hj.out, by rw [← hcat.out], by rw [List.length_append, List.length_append]; simp; omega⟩
        case measure => simp [intOf]; omega
    · obtain rfl : k = n := by omega
      go_wp2
      go_ret
      exact ⟨ret_str (by rw [HO.out]), rfl⟩
end Go.Proofs.YtmmijmhdbpldpaaGreatDoor
/- The block starters that decline a line. -/

namespace Go.Proofs.YtmmijmhdbpldpaaGreatDoor
open Go.RowKit
/-- A line's value. -/
@[reducible] def lnV (i : Nat) (tb : Int) (s : ByteArray) (nl : Int) : Value := .agg #[.int .i64 0, .int .i64 i, .int .i64 tb, .string s, .int .u8 nl]
theorem ln_store {w : World} {g : Nat} {a0 a1 a2 a3 a4 : Value} (h : Blk w g 104 #[a0, a1, a2, a3, a4]) (j : Nat) (tb nl : Int) (s : ByteArray) : IsLn (((((w.setCell ⟨g, 0, none⟩ (.int .i64 0)).setCell ⟨g, 1, none⟩ (.int .i64 j)).setCell ⟨g, 2, none⟩ (.int .i64 tb)).setCell ⟨g, 3, none⟩ (.string s)).setCell ⟨g, 4, none⟩ (.int .u8 nl)) g j tb s nl := by
  have h' := (((((Blk.set_ h 0 (.int .i64 0)).set_ 1 (.int .i64 j)).set_ 2 (.int .i64 tb)).set_ 3 (.string s)).set_ 4 (.int .u8 nl))
  simpa [lnC, IsLn] using h'
set_option maxHeartbeats 1600000 in
theorem trimQuote_no (i : Nat) (tb nl : Int) (s : ByteArray) (w : World) (hs : s.size ≤ 140737488355328) (hi : i ≤ s.size) (ht : ∀ k, bt s k ≠ 9) (hq : ∀ k, i ≤ k → k ≤ i + 3 → bt s k ≠ 62) :
    Calls Tryz.prog 124 #[lnV i tb s nl] w fun e w' => e = .returned (.tuple #[lnV i tb s nl, .bool false]) ∧ Below w.heap.size w w' := by
  have HT := hid ht
  have HQ := hid hq
  clear ht hq
  go_enter Tryz.func124, Tryz.ntmps124
  go_wp2_with fail
  refine (trimSp_any _ i 0 3 false tb nl s _ (Blk.new' (by simp)) hs hi HT.out (by omega) (by omega)).mono ?_
  rintro e w1 ⟨j, h1, h2, h3, h4, h5, h6, hm⟩
  rcases h6 with ⟨rfl, _, hln⟩ | ⟨_, hbad, _⟩
  · have HLN := hid hln
    have HM := hid hm
    clear hln hm h4 h5
    go_wp2_with fail
    refine (trim_no _ j _ tb nl s _ HLN.out hs (.inr (HQ.out j h1 h2))).mono ?_
    rintro e w2 ⟨rfl, n2, rfl⟩
    have hm2 := HM.out.drewN n2
    have hbox : IsLn (w1.drewN n2) w.heap.size i tb s nl := (Blk.alloc (Blk.alloc (Blk.new' rfl) _) _ : Blk _ w.heap.size 104 (lnC i tb s nl)).mod hm2 (by show ¬ (w.heap.size = w.heap.size + 1 + 1); omega)
    have hres : Blk (w1.drewN n2) (w.heap.size + 1) 104 #[.int .i64 0, .int .i64 0, .int .i64 0, .string ⟨#[]⟩, .int .u8 0] := (Blk.alloc (Blk.new' (by simp)) _ : Blk _ (w.heap.size + 1) 104 #[.int .i64 0, .int .i64 0, .int .i64 0, .string ⟨#[]⟩, .int .u8 0]).mod hm2 (by show ¬ (w.heap.size + 1 = w.heap.size + 1 + 1); omega)
    have hbel : Below w.heap.size w (w1.drewN n2) := below_drewN (((((Below.refl _ _).alloc (Nat.le_refl _) _).alloc (by simp) _).alloc (by simp; omega) _).trans (Mod.toBelow HM.out (by simp; omega) (fun k hk h => by omega))) n2
    clear HM HLN hm2
    generalize w1.drewN n2 = wa at hbox hres hbel ⊢
    have c0 := hbox.c0
    have c1 := hbox.c1
    have c2 := hbox.c2
    have c3 := hbox.c3
    have c4 := hbox.c4
    have r0 := hres.at_ 0 rfl
    have r1 := hres.at_ 1 rfl
    have r2 := hres.at_ 2 rfl
    have r3 := hres.at_ 3 rfl
    have r4 := hres.at_ 4 rfl
    have fr := hres.free
    have HR := hid hres
    have HB := hid hbel
    clear hbox hres hbel
    go_wp2_with fail
    have hln := hid (ln_store HR.out i tb nl s)
    have hb2 : Hid (Below w.heap.size w _) := hid (((((HB.out.setCell (p := ⟨w.heap.size + 1, 0, none⟩) (by simp) (.int .i64 0)).setCell (p := ⟨w.heap.size + 1, 1, none⟩) (by simp) (.int .i64 i)).setCell (p := ⟨w.heap.size + 1, 2, none⟩) (by simp) (.int .i64 tb)).setCell (p := ⟨w.heap.size + 1, 3, none⟩) (by simp) (.string s)).setCell (p := ⟨w.heap.size + 1, 4, none⟩) (by simp) (.int .u8 nl))
    generalize World.setCell _ ⟨w.heap.size + 1, 4, none⟩ _ = wy at hln hb2 ⊢
    clear c0 c1 c2 c3 c4 r0 r1 r2 r3 r4 fr
    have k0 := hln.out.c0
    have k1 := hln.out.c1
    have k2 := hln.out.c2
    have k3 := hln.out.c3
    have k4 := hln.out.c4
    refine bodyPost_ret (by simp [results, Tryz.results124, go_sem, k0, k1, k2, k3, k4]; try rfl) rfl ?_
    exact ⟨rfl, hb2.out⟩
  · omega
set_option maxHeartbeats 1600000 in
theorem newQuote_no (g i : Nat) (tb nl : Int) (s : ByteArray) (w : World) (hs : s.size ≤ 140737488355328) (hi : i ≤ s.size) (ht : ∀ k, bt s k ≠ 9) (hq : ∀ k, i ≤ k → k ≤ i + 3 → bt s k ≠ 62) :
    Calls Tryz.prog 85 #[.pointer (some ⟨g, 0, none⟩), lnV i tb s nl] w fun e w' => e = .returned (.tuple #[lnV i tb s nl, .bool false]) ∧ Below w.heap.size w w' := by
  have HT := hid ht
  have HQ := hid hq
  clear ht hq
  go_enter Tryz.func85, Tryz.ntmps85
  go_wp2_with fail
  refine (trimQuote_no i tb nl s _ hs hi HT.out HQ.out).mono ?_
  rintro e w1 ⟨rfl, hb⟩
  have hm2 := Mod.below' (S := fun _ => False) hb
  have hbox : IsLn w1 w.heap.size i tb s nl := (Blk.alloc (Blk.new' rfl) _ : Blk _ w.heap.size 104 (lnC i tb s nl)).mod (S := fun _ => False) hm2 (fun h => h)
  have hres : Blk w1 (w.heap.size + 1) 104 #[.int .i64 0, .int .i64 0, .int .i64 0, .string ⟨#[]⟩, .int .u8 0] := (Blk.new' (by simp) : Blk _ (w.heap.size + 1) 104 #[.int .i64 0, .int .i64 0, .int .i64 0, .string ⟨#[]⟩, .int .u8 0]).mod (S := fun _ => False) hm2 (fun h => h)
  have hbel : Below w.heap.size w w1 := (((Below.refl _ _).alloc (Nat.le_refl _) _).alloc (by simp) _).trans (hb.mono (by simp; omega))
  have hl1 := Blk.lt hbox
  have hl2 := Blk.lt hres
  clear hb hm2
  have c0 := hbox.c0
  have c1 := hbox.c1
  have c2 := hbox.c2
  have c3 := hbox.c3
  have c4 := hbox.c4
  have r0 := hres.at_ 0 rfl
  have r1 := hres.at_ 1 rfl
  have r2 := hres.at_ 2 rfl
  have r3 := hres.at_ 3 rfl
  have r4 := hres.at_ 4 rfl
  have fr := hres.free
  have HR := hid hres
  have HB := hid hbel
  clear hbox hres hbel
  unfold lnV
  go_wp2_with fail
  have hln : Hid (IsLn _ (w.heap.size + 1) i tb s nl) := hid (Blk.alloc (ln_store HR.out i tb nl s) (.cells #[.int .i64 0, .int .i64 i, .int .i64 tb, .string s, .int .u8 nl] 104))
  have hb2 : Hid (Below w.heap.size w _) := hid ((((((HB.out.setCell (p := ⟨w.heap.size + 1, 0, none⟩) (by simp) (.int .i64 0)).setCell (p := ⟨w.heap.size + 1, 1, none⟩) (by simp) (.int .i64 i)).setCell (p := ⟨w.heap.size + 1, 2, none⟩) (by simp) (.int .i64 tb)).setCell (p := ⟨w.heap.size + 1, 3, none⟩) (by simp) (.string s)).setCell (p := ⟨w.heap.size + 1, 4, none⟩) (by simp) (.int .u8 nl)).alloc (by simp; omega) (.cells #[.int .i64 0, .int .i64 i, .int .i64 tb, .string s, .int .u8 nl] 104))
  generalize World.alloc _ _ = wy at hln hb2 ⊢
  clear c0 c1 c2 c3 c4 r0 r1 r2 r3 r4 fr
  have k0 := hln.out.c0
  have k1 := hln.out.c1
  have k2 := hln.out.c2
  have k3 := hln.out.c3
  have k4 := hln.out.c4
  refine bodyPost_ret (by simp [results, Tryz.results85, go_sem, k0, k1, k2, k3, k4]; try rfl) rfl ?_
  exact ⟨rfl, hb2.out⟩
set_option maxHeartbeats 1600000 in
theorem trimHeading_no (g i n : Nat) (tb nl : Int) (s : ByteArray) (w : World) (h : IsLn w g i tb s nl) (hs : s.size ≤ 140737488355328) (hi : i ≤ s.size) (ht : ∀ k, bt s k ≠ 9) (hq : ∀ k, i ≤ k → k ≤ i + 3 → bt s k ≠ 35) :
    Calls Tryz.prog 125 #[.pointer (some ⟨g, 0, none⟩), .pointer (some ⟨n, 0, none⟩)] w fun e w' => e = .returned (.bool false) ∧ Below w.heap.size w w' := by
  have h0 := h.c0
  have h1 := h.c1
  have h2 := h.c2
  have h3 := h.c3
  have h4 := h.c4
  have HT := hid ht
  have HQ := hid hq
  clear ht hq h
  go_enter Tryz.func125, Tryz.ntmps125
  go_wp2_with fail
  refine (trimSp_any _ i 0 3 false tb nl s _ (Blk.new' (by simp)) hs hi HT.out (by omega) (by omega)).mono ?_
  rintro e w1 ⟨j, a1, a2, a3, a4, a5, a6, hm⟩
  rcases a6 with ⟨rfl, _, hln⟩ | ⟨_, hbad, _⟩
  · have HLN := hid hln
    have HM := hid hm
    clear hln hm a4 a5
    go_wp2_with fail
    refine (trim_no _ j _ tb nl s _ HLN.out hs (.inr (HQ.out j a1 a2))).mono ?_
    rintro e w2 ⟨rfl, n2, rfl⟩
    go_wp2_with fail
    go_ret
    exact ⟨rfl, below_drewN (((Below.refl _ _).alloc (Nat.le_refl _) _).trans (Mod.toBelow HM.out (by simp) (fun k hk h => by omega))) n2⟩
  · omega
end Go.Proofs.YtmmijmhdbpldpaaGreatDoor
/- A block that is done goes to the top of the stack; a thematic break is such a block. -/



namespace Go.Proofs.YtmmijmhdbpldpaaGreatDoor
open Go.RowKit
set_option maxHeartbeats 800000 in
theorem string_any (g i : Nat) (tb nl : Int) (s : ByteArray) (w : World) (h : IsLn w g i tb s nl) (_ : s.size ≤ 140737488355328) (_ : i ≤ s.size) :
    Calls Tryz.prog 126 #[.pointer (some ⟨g, 0, none⟩)] w fun e w' => e = .returned (.string (s.extract i s.size)) ∧ ∃ n, w' = w.drewN n := by
  have h0 := h.c0
  have h1 := h.c1
  have h3 := h.c3
  clear h
  go_enter Tryz.func126, Tryz.ntmps126
  go_wp2
  go_quiet (fail)
  go_wp2
  go_ret
  exact ⟨rfl, _, rfl⟩
theorem infoBlock : (Tryz.prog.info? 69).map (fun i => (i.zero, i.size, i.bytes)) = some (some .nilIface, 1, 16) := by kernel_rfl
theorem IsStack.blk {w : World} {B sb n cap : Nat} {es : List Ent} (h : IsStack w B ⟨some ⟨sb, 0, none⟩, n, cap⟩ es) : ∃ cs, Blk w sb 121 cs := by
  rcases h.2.2 with ⟨h0, _⟩ | ⟨g', cap', cur, h0, _, hh, _⟩
  · simp [Sl.v] at h0
  · simp only [Sl.v, Value.slice.injEq, Option.some.injEq, Addr.mk.injEq] at h0
    obtain ⟨⟨rfl, _⟩, _⟩ := h0
    exact ⟨_, hh⟩
theorem set_inner (l : List Value) (n : Nat) (a b c d b' : Value) (h : l.length = n) : (l ++ [a, b, c, d]).set (n + 1) b' = l ++ [a, b', c, d] := by
  subst h
  rw [List.set_append_right _ _ (by omega)]
  simp
def DoneP (B g : Nat) (r : PSr) (es : List Ent) (e0 : Ent) (bs : List Value) (y : Value) (w w' : World) : Prop :=
  ∃ v : Sl, v.n = e0.inner.n + 1 ∧ IsPS w' g r ∧ IsStack w' B r.stack (es ++ [{ e0 with inner := v }]) ∧ w'.ownsRow B 69 1 v.v v.n (bs ++ [y]) ∧ Mod (fun k => some k = r.stack.v.ownBlock ∨ some k = e0.inner.v.ownBlock) w w'
set_option maxRecDepth 20000 in
set_option maxHeartbeats 1600000 in
theorem doneBlock_top (B g : Nat) (r : PSr) (es : List Ent) (e0 : Ent) (w : World) (u : TypeId) (x : Value) (bs : List Value) (hB : B ≤ w.heap.size) (hps : IsPS w g r) (hst : IsStack w B r.stack (es ++ [e0])) (hd : r.lineDepth = es.length) (hn : es.length ≤ 1000000)
    (hin : w.ownsRow B 69 1 e0.inner.v e0.inner.n bs) (hm : e0.inner.n ≤ 1000000) :
    Calls Tryz.prog 131 #[.pointer (some ⟨g, 0, none⟩), .iface u x] w fun e w' => e = .returned (.tuple #[]) ∧ DoneP B g r es e0 bs (.iface u x) w w' := by
  obtain ⟨sb, cap, hv, hcap, hfr, hob, hsb, hBs, k0, k1, k2, k3⟩ := hst.top
  have c4 := hps.c4
  have c5 := hps.c5
  rw [hv] at c4
  rw [hd] at c5
  have HTN := hid (show (es.length : Int) + 1 = r.stack.n by rw [hv]; simp)
  have HV := hid hv
  have HOB := hid hob
  clear hv hob hd
  obtain ⟨i0, hi, hz0, hz1, hz2⟩ := info_parts infoBlock
  have HIN := hid hin
  clear hin
  go_enter Tryz.func131, Tryz.ntmps131
  go_wp2_with fail
  refine (trimStack_none g r w _ hps HTN.out).mono ?_
  rintro e w1 ⟨rfl, rfl⟩
  go_wp2_with fail
  go_quiet (fail)
  have hcl : ∀ j u', ([.iface u x] : List Value)[j]? = some u' → ((w.drewN nq).alloc (.cells #[.iface u x] 69)).cell? ((⟨w.heap.size, 0, none⟩ : Addr).add j) = some u' := by
    intro j u' hj
    cases j with
    | zero => rw [Addr.add, if_pos rfl]; exact ((Blk.new (w.drewN nq) 69 #[.iface u x]).cell 0).trans hj
    | succ j => simp at hj
  have HCL := hid hcl
  clear hcl
  go_wp2_with (at_builtin; refine wpList_append_own_at _ rfl (.tmp 27) (.tmp 29) 119 rfl B 69 i0 _ 1 16 Tryz.underlying119 hi hz0 hz1 hz2 rfl (by decide) (.slice e0.inner.a e0.inner.n e0.inner.c) e0.inner.n bs rfl (World.ownsRow.alloc (World.ownsRow.drewN HIN.out nq) _) ⟨w.heap.size, 0, none⟩ 1 1 [.iface u x] rfl rfl HCL.out ?_ ?_ ?_ ?_ ?_)
  · intro v hv; simp at hv; subst hv; rfl
  · unfold maxLen; omega
  · omega
  · simp; omega
  · intro v' w1 hown hgr hnil hat
    obtain ⟨cs, hcs⟩ := IsStack.blk (HV.out ▸ hst)
    have hnb : some sb ≠ (Value.slice e0.inner.a e0.inner.n e0.inner.c).ownBlock := own_ne HIN.out hcs (by decide)
    have hps1 : IsPS w1 g r := Blk.grown ((hps.drewN nq).alloc _) hgr (own_ne HIN.out hps (by decide))
    have hm1 : Mod (fun k => some k = e0.inner.v.ownBlock) w w1 := (((Mod.refl _ w).drewN nq).alloc _).grown hgr (fun k hk => .inl hk.symm)
    have hst1 : IsStack w1 B r.stack (es ++ [e0]) := hst.mod hm1 (fun k hk e => by rw [HOB.out] at hk; cases hk; exact hnb e)
    obtain ⟨sb', cap', hv', hcap', hfr', hob', hsb', hBs', q0, q1, q2, q3⟩ := hst1.top
    have hvv := hv'.symm.trans HV.out
    simp only [Sl.mk.injEq, Option.some.injEq, Addr.mk.injEq] at hvv
    obtain ⟨⟨rfl, _⟩, _, rfl⟩ := hvv
    have hsg : g ≠ sb' := Blk.ne_ hps hcs (by decide)
    obtain ⟨g2, cap2, rfl, hc2⟩ : ∃ g2 cap2, v' = .slice (some ⟨g2, 0, none⟩) (e0.inner.n + 1) cap2 ∧ e0.inner.n + 1 ≤ cap2 := by
      rcases hown.2 with ⟨h1, h2⟩ | ⟨g2, cap2, cur, h1, _, _, h2, _⟩
      · exact absurd h2 (by omega)
      · exact ⟨g2, cap2, h1, h2⟩
    have hg2 : sb' ≠ g2 := by
      rintro rfl
      rcases hat with h | h
      · exact hnb h
      · have : sb' = w.heap.size + 1 := by simpa [Value.ownBlock] using h
        omega
    have hg2' : some g2 = e0.inner.v.ownBlock ∨ w.heap.size ≤ g2 := by
      rcases hat with h | h
      · exact .inl h
      · have : g2 = w.heap.size + 1 := by simpa [Value.ownBlock] using h
        exact .inr (by omega)
    have HO := hid hown
    have HM := hid hm1
    have HST := hid hst1
    have HPS := hid hps1
    have HC := hid hcs
    have HG := hid hg2'
    clear hown hgr hat hm1 hst1 hps1 hcs hg2' k0 k1 k2 k3 hfr hv' hob'
    go_wp2
    go_end0
    refine ⟨rfl, ⟨some ⟨g2, 0, none⟩, e0.inner.n + 1, cap2⟩, rfl, HPS.out.far hsg _, ⟨?_, ?_⟩, ?_, ?_⟩
    · simp [HV.out]
    · have s0 := HST.out.2
      rw [HV.out, show (es ++ [e0]).length = es.length + 1 by simp] at s0
      rw [HV.out]
      have s1 := (s0.stored (es.length * 4 + 1) (.slice (some ⟨g2, 0, none⟩) (e0.inner.n + 1) cap2)).1
      rw [List.flatMap_append] at s1 ⊢
      simp only [List.flatMap_cons, List.flatMap_nil, List.append_nil, Ent.cells, List.length_append, List.length_cons, List.length_nil] at s1 ⊢
      rw [set_inner _ _ _ _ _ _ _ (ents_len es)] at s1
      exact s1
    · refine own_far HO.out ?_ _
      simpa [Value.ownBlock] using hg2
    · refine (HM.out.mono (fun k _ h => .inr h)).setCell (.inl (.inl ?_)) _
      rw [HOB.out]
theorem line_zero {w : World} {g : Nat} {a0 a1 a2 a3 a4 : Value} (h : Blk w g 104 #[a0, a1, a2, a3, a4]) : Blk (((((w.setCell ⟨g, 0, none⟩ (.int .i64 0)).setCell ⟨g, 1, none⟩ (.int .i64 0)).setCell ⟨g, 2, none⟩ (.int .i64 0)).setCell ⟨g, 3, none⟩ (.string ⟨#[]⟩)).setCell ⟨g, 4, none⟩ (.int .u8 0)) g 104 #[.int .i64 0, .int .i64 0, .int .i64 0, .string ⟨#[]⟩, .int .u8 0] := by
  have h' := (((((Blk.set_ h 0 (.int .i64 0)).set_ 1 (.int .i64 0)).set_ 2 (.int .i64 0)).set_ 3 (.string ⟨#[]⟩)).set_ 4 (.int .u8 0))
  simpa using h'
def HRP (B g : Nat) (r : PSr) (es : List Ent) (e0 : Ent) (bs : List Value) (raw : ByteArray) (w : World) (w' : World) : Prop :=
  ∃ t, w.heap.size ≤ t ∧ Blk w' t 241 #[.int .i64 r.lineno, .int .i64 r.lineno, .string raw] ∧ DoneP B g r es e0 bs (.iface 239 (.pointer (some ⟨t, 0, none⟩))) w w'
end Go.Proofs.YtmmijmhdbpldpaaGreatDoor
