/- A text that is one thematic break's line: its document, and its HTML. -/
import Derived.Test.YtohokfbjmfjjaaaGreatDoorLawBreak0
import Derived.Test.YtohokfbjmfjjaaaGreatDoorAdd
import Derived.Test.YtohokfbjmfjjaaaGreatDoorDone2
import Derived.Test.YtohokfbjmfjjaaaGreatDoorSetext
import Derived.Test.YtohokfbjmfjjaaaGreatDoorHTML
namespace Go.Proofs.YtohokfbjmfjjaaaGreatDoor
open Go.RowKit
def rootE (a : Option Addr) (inner : Sl) : Ent := ⟨70, .pointer a, inner, 0, 0⟩
def tbV (t : Nat) : Value := .iface 214 (.pointer (some ⟨t, 0, none⟩))
/-- The parse of such a line: ahead of it, and behind it. -/
def BreakInv (pb g : Nat) (w0 : World) (T : List UInt8) (l : List UInt8) (n : Nat) (w : World) : Prop :=
  Below g w0 w ∧ ∃ st a, (l = T ∧ n = 0 ∧ IsPS w g { ps0 pb with stack := st } ∧ IsStack w (g + 1) st ([] ++ [rootE a Sl.nil])) ∨
    (l = [] ∧ n = 1 ∧ ∃ v t, IsPS w g { ps0 pb with lineno := 1, lineDepth := 0, stack := st } ∧ IsStack w (g + 1) st ([] ++ [rootE a v]) ∧ v.n = 1 ∧ w.ownsRow (g + 1) 45 1 v.v 1 [tbV t])
def BreakFin (pb g : Nat) (w0 : World) (k : Nat) (w : World) : Prop :=
  k = 0 ∧ Below g w0 w ∧ ∃ (d : Nat) (st v : Sl) (t : Nat), g < d ∧ IsPS w g { ps0 pb with lineno := 1, lineDepth := 0, stack := st, root := some ⟨d, 0, none⟩ } ∧ Blk w d 332 #[.int .i64 0, .int .i64 0, v.v, .map none] ∧ v.n = 1 ∧ w.ownsRow (g + 1) 45 1 v.v 1 [tbV t]
theorem stack_ne {w : World} {B : Nat} {s : Sl} {es : List Ent} {g : Nat} {t : TypeId} {cs : Array Value} (h : IsStack w B s es) (hg : Blk w g t cs) (ht : 91 ≠ t) : some g ≠ s.v.ownBlock := own_ne h.2 hg ht
/-- What the one block's line leaves. -/
def BreakQ (pb g : Nat) (st : Sl) (a : Option Addr) (w w' : World) : Prop :=
  Mod (fun k => g ≤ k) w w' ∧ ∃ v t, IsPS w' g { ps0 pb with lineno := 1, lineDepth := 0, stack := st } ∧ IsStack w' (g + 1) st ([] ++ [rootE a v]) ∧ v.n = 1 ∧ w'.ownsRow (g + 1) 45 1 v.v 1 [tbV t]
theorem own_ge {w : World} {base : Nat} {e : TypeId} {size n : Nat} {v : Value} {xs : List Value} (h : w.ownsRow base e size v n xs) {k : Nat} (hk : some k = v.ownBlock) : base ≤ k := by
  rcases h.2 with ⟨rfl, _⟩ | ⟨g', cap, cur, rfl, hb, _⟩
  · simp [Value.ownBlock] at hk
  · simp only [Value.ownBlock, Option.some.injEq] at hk
    omega
set_option maxHeartbeats 1600000 in
theorem addLine_break (pb g : Nat) (l : List UInt8) (j : Nat) (c : Int) (st : Sl) (a : Option Addr) (w : World) (hl : HRLine l j c) (hlen : l.length ≤ 1000000)
    (hps : IsPS w g { ps0 pb with lineno := 1, stack := st }) (hst : IsStack w (g + 1) st ([] ++ [rootE a Sl.nil])) :
    Calls Tryz.prog 27 #[.pointer (some ⟨g, 0, none⟩), lnV 0 0 ⟨l.toArray⟩ 0] w fun e w' => e = .returned (.tuple #[]) ∧ BreakQ pb g st a w w' := by
  have hsz : (ByteArray.mk l.toArray).size ≤ 1000000 := bsz hlen
  have hsn : st.n = 1 := hst.1
  have hg := hps.lt
  have hne : some g ≠ st.v.ownBlock := stack_ne hst hps (by decide)
  refine (addLine_one g 3 { ps0 pb with lineno := 1, stack := st } ⟨l.toArray⟩ 0 w (BreakQ pb g st a w) hps hsn hsz (by omega) (by simpa using hl.ink) ?_ ?_).mono ?_
  · intro i f wr hi hf hp hm
    have hst' := hst.mod hm (fun k hk e => hne (by rw [hk, e]))
    have h3 : i = 0 ∨ i = 1 ∨ i = 2 := by omega
    rcases h3 with rfl | rfl | rfl
    · cases hf
      exact newQuote_no g 0 0 0 ⟨l.toArray⟩ wr (by omega) (Nat.zero_le _) (hl.bt_not 9 (by decide)) (fun k _ _ => hl.bt_not 62 (by decide) k)
    · cases hf
      exact newATX_no g 0 0 0 ⟨l.toArray⟩ wr (by omega) (Nat.zero_le _) (hl.bt_not 9 (by decide)) (fun k _ _ => hl.bt_not 35 (by decide) k)
    · cases hf
      exact newSetext_no (g + 1) g 0 _ [] (rootE a Sl.nil) a 0 0 ⟨l.toArray⟩ wr hp hst' (by simp) (by simp [hsn]) rfl rfl
  · intro f wr hf hp hm
    cases hf
    have hst' := hst.mod hm (fun k hk e => hne (by rw [hk, e]))
    refine (newHR_yes (g + 1) g 0 j _ [] (rootE a Sl.nil) [] c 0 0 ⟨l.toArray⟩ wr hp.lt hp hst' rfl (by simp) (World.ownsRow_nil _ _ _ _) (by simp [rootE, Sl.nil]) (by omega) (Nat.zero_le _) (by have := hl.j3; omega) hl.sp hl.js hl.at_ hl.cc hl.all (hl.bt_not 9 (by decide)) hl.three).mono ?_
    rintro e w' ⟨rfl, ⟨t, ht, hblk, v, hv, hps', hst'', hin, hmod⟩, hsize, hkeep⟩
    refine ⟨rfl, ⟨?_, v, t, hps', hst'', hv, ?_⟩, hsize, hkeep⟩
    · refine (hm.mono (S' := fun k => g ≤ k) (fun k _ e => by omega)).trans hmod (fun k _ e => ?_)
      rcases e with e | e
      · have := own_ge hst'.2 e; omega
      · simp [rootE, Sl.nil, Value.ownBlock] at e
    · have : v.n = 1 := hv
      rw [this] at hin
      exact hin
  · rintro e w' ⟨rfl, w1, lb, cs, ⟨hm, v, t, hps', hst', hv, hin⟩, hlb, hblk, hmod⟩
    have h1 : g ≠ lb := Blk.ne_ hps' hblk (by decide)
    refine ⟨rfl, hm.trans hmod (fun k hk e => by omega), v, t, hps'.mod hmod h1, hst'.mod hmod ?_, hv, own_mod hin hmod ?_⟩
    · intro k hk e
      exact stack_ne hst' hblk (by decide) (by rw [hk, e])
    · intro k hk e
      exact own_ne hin hblk (by decide) (by rw [hk, e])
theorem breakH (pb g : Nat) (w0 : World) (T : List UInt8) (j : Nat) (c : Int) (hT : HRLine T j c) (hL : T.length ≤ 100000) (hpb : pb < g) (hp : w0.cell? ⟨pb, 2, none⟩ = some (.bool false)) : ParseH pb g none 0 (BreakInv pb g w0 T) (BreakFin pb g w0) T.length where
  line := by
    intro l n w ⟨hb, st, a, h⟩ hne hll
    rcases h with ⟨rfl, rfl, hps, hst⟩ | ⟨rfl, _⟩
    · refine ⟨⟨_, hps, rfl⟩, by omega, ?_⟩
      rw [hT.next]
      have hne2 : some g ≠ st.v.ownBlock := stack_ne hst hps (by decide)
      refine (addLine_break pb g l j c st a _ hT (by omega) (hps.set3 _) (hst.far (p := ⟨g, 3, none⟩) hne2 _)).mono ?_
      rintro e w' ⟨rfl, hm, v, t, hps', hst', hv, hin⟩
      refine ⟨rfl, ?_, st, a, .inr ⟨rfl, rfl, v, t, hps', hst', hv, hin⟩⟩
      exact (hb.setCell (p := ⟨g, 3, none⟩) (Nat.le_refl _) _).trans (hm.toBelow (B := g) (by simp; exact Nat.le_of_lt hps.lt) (fun k hk e => by omega))
    · exact absurd rfl hne
  drew := by
    intro l n w k ⟨hb, st, a, h⟩
    refine ⟨below_drewN hb k, st, a, ?_⟩
    rcases h with ⟨h1, h2, hps, hst⟩ | ⟨h1, h2, v, t, hps, hst, hv, hin⟩
    · exact .inl ⟨h1, h2, hps.drewN k, hst.drewN k⟩
    · exact .inr ⟨h1, h2, v, t, hps.drewN k, hst.drewN k, hv, World.ownsRow.drewN hin k⟩
  trim := by
    intro n w ⟨hb, st, a, h⟩
    rcases h with ⟨h1, _, _, _⟩ | ⟨_, _, v, t, hps, hst, hv, hin⟩
    · exact absurd (h1 ▸ hT.js) (by simp [ByteArray.size])
    · refine (trimRoot_any (g + 1) g _ a v 0 0 w hps hst).mono ?_
      rintro e w' ⟨rfl, d', st', hd, hps', hblk, hm⟩
      have hne2 : some g ≠ v.v.ownBlock := own_ne hin hps (by decide)
      refine ⟨rfl, rfl, ?_, d', st', v, t, by have := hps.lt; omega, hps', hblk, hv, own_mod hin hm (fun k hk e => hne2 (by rw [hk, e]))⟩
      exact hb.trans (hm.toBelow (B := g) (Nat.le_of_lt hps.lt) (fun k hk e => by omega))
  at_ := by
    intro k w ⟨hk, hb, d, st, v, t, hd, hps, hblk, _⟩
    refine ⟨by omega, _, 0, hps, rfl, ?_⟩
    rw [hb.cell (by exact hpb)]; exact hp
  text := by
    intro k w _ hk
    omega
def hrOut : List UInt8 := [60, 104, 114, 32, 47, 62, 10]
set_option maxRecDepth 20000 in
theorem tb_prints (w : World) (b t : Nat) : Prints w b (tbV t) hrOut := by
  refine ⟨_, _, 310, .pointer (some ⟨t, 0, none⟩), rfl, fun W => by kernel_rfl, Go.Proofs.enters_of Tryz.func310 (by kernel_rfl) rfl, fun B bs W hk hb hB hl => ?_⟩
  have HB := hid hb
  clear hb hk
  go_enter Tryz.func310, Tryz.ntmps310
  go_wp2_with (go_at_call 230; refine (write_str B b bs _ _ HB.out hB (by simp [hrOut] at hl; simp [ByteArray.size]; omega)).mono ?_; rintro e w1 ⟨rfl, h1, b1, k1⟩; have H1 := hid h1; have B1 := hid b1; have K1 := hid k1; clear h1 b1 k1)
  go_end0
  exact ⟨rfl, H1.out, B1.out, K1.out⟩
theorem Parse_break (pb : Nat) (T : List UInt8) (j : Nat) (c : Int) (w : World) (hT : HRLine T j c) (hL : T.length ≤ 100000) (hp : w.cell? ⟨pb, 2, none⟩ = some (.bool false)) :
    Calls Tryz.prog 18 #[.pointer (some ⟨pb, 0, none⟩), .string ⟨T.toArray⟩] w (ParsedDoc w hrOut) := by
  have hpb : pb < w.heap.size := World.block_lt_of_cell? w _ hp
  have hpar : Calls Tryz.prog 21 #[.pointer (some ⟨pb, 0, none⟩), .string ⟨T.toArray⟩] w fun e w' => ∃ d, e = .returned (.tuple #[.pointer (some ⟨d, 0, none⟩), .bool false]) ∧ DocPrints w' d hrOut ∧ Below w.heap.size w w' := by
    refine (parse_gen pb T w none 0 (BreakInv pb w.heap.size w T) (BreakFin pb w.heap.size w) (by omega) (idxB_not T 0 (hT.not_ 0 (by decide))) (breakH pb w.heap.size w T j c hT hL hpb hp) ?_).mono ?_
    · intro w' bn hps hb
      refine (addBlock_top (w.heap.size + 1) w.heap.size (ps0 pb) [] w' 70 (.pointer (some ⟨bn, 0, none⟩)) hps.lt hps ⟨rfl, World.ownsRow_nil _ _ _ _⟩ rfl (by simp)).mono ?_
      rintro e w1 ⟨rfl, v, hps1, hst, _, hm⟩
      refine ⟨rfl, ?_, v, some ⟨bn, 0, none⟩, .inl ⟨rfl, rfl, hps1, hst⟩⟩
      exact hb.trans (hm.toBelow (B := w.heap.size) hb.size (fun k hk e => by
        rcases e with e | e
        · omega
        · simp [ps0, Sl.nil, Value.ownBlock] at e))
    · rintro e w' ⟨r, k, rfl, hps, w0, ⟨_, hb, d, st, v, t, hd, hps0, hblk, hv, hin⟩, rfl⟩
      have h1 := hps.c1
      have h2 := hps0.c1
      have h3 := hps.c6
      have h4 := hps0.c6
      rw [show (w0.drewN k).cell? ⟨w.heap.size, 1, none⟩ = w0.cell? ⟨w.heap.size, 1, none⟩ from rfl, h2] at h1
      rw [show (w0.drewN k).cell? ⟨w.heap.size, 6, none⟩ = w0.cell? ⟨w.heap.size, 6, none⟩ from rfl, h4] at h3
      simp only [Option.some.injEq, Value.pointer.injEq, Value.bool.injEq] at h1 h3
      rw [← h1, ← h3]
      refine ⟨d, rfl, ⟨0, 0, v, none, w.heap.size + 1, [tbV t], [hrOut], hblk, ?_, by omega, by simp, by simp [hrOut], rfl, ?_⟩, below_drewN hb k⟩
      · rw [hv]; exact World.ownsRow.drewN hin k
      · intro b i y o _ hy ho
        cases i with
        | zero =>
          simp at hy ho
          subst hy ho
          exact tb_prints _ b t
        | succ i => simp at hy
  go_enter Tryz.func18, Tryz.ntmps18
  go_wp2_with (go_at_call 21; refine hpar.mono ?_; rintro e w1 ⟨d, rfl, hd, hb⟩)
  go_ret
  exact ⟨d, rfl, hd, hb⟩
theorem HTML_break (T : List UInt8) (j : Nat) (c : Int) (w : World) (hT : HRLine T j c) (hL : T.length ≤ 100000) :
    Calls Tryz.prog 7 #[plainO.v, .string ⟨T.toArray⟩] w fun e w' => e = .returned (.string ⟨hrOut.toArray⟩) ∧ Below w.heap.size w w' :=
  HTML_gen plainO ⟨T.toArray⟩ w hrOut (fun g w1 hblk => Parse_break g T j c w1 hT hL (by rw [hblk.cell]; rfl))
end Go.Proofs.YtohokfbjmfjjaaaGreatDoor
