/- The block starters that decline a line. -/
import Derived.Test.YtmcjhcfhglfmlaaGreatDoorLine
namespace Go.Proofs.YtmcjhcfhglfmlaaGreatDoor
open Go.RowKit
/-- A line's value. -/
@[reducible] def lnV (i : Nat) (tb : Int) (s : ByteArray) (nl : Int) : Value := .agg #[.int .i64 0, .int .i64 i, .int .i64 tb, .string s, .int .u8 nl]
theorem ln_store {w : World} {g : Nat} {a0 a1 a2 a3 a4 : Value} (h : Blk w g 104 #[a0, a1, a2, a3, a4]) (j : Nat) (tb nl : Int) (s : ByteArray) : IsLn (((((w.setCell ⟨g, 0, none⟩ (.int .i64 0)).setCell ⟨g, 1, none⟩ (.int .i64 j)).setCell ⟨g, 2, none⟩ (.int .i64 tb)).setCell ⟨g, 3, none⟩ (.string s)).setCell ⟨g, 4, none⟩ (.int .u8 nl)) g j tb s nl := by
  have h' := (((((Blk.set_ h 0 (.int .i64 0)).set_ 1 (.int .i64 j)).set_ 2 (.int .i64 tb)).set_ 3 (.string s)).set_ 4 (.int .u8 nl))
  simpa [lnC, IsLn] using h'
set_option maxHeartbeats 1600000 in
theorem trimQuote_no (i : Nat) (tb nl : Int) (s : ByteArray) (w : World) (hs : s.size ≤ 140737488355328) (hi : i ≤ s.size) (ht : ∀ k, bt s k ≠ 9) (hq : ∀ k, i ≤ k → k ≤ i + 3 → bt s k ≠ 62) :
    Calls Tryz.prog 127 #[lnV i tb s nl] w fun e w' => e = .returned (.tuple #[lnV i tb s nl, .bool false]) ∧ Below w.heap.size w w' := by
  have HT := hid ht
  have HQ := hid hq
  clear ht hq
  go_enter Tryz.func127, Tryz.ntmps127
  go_wp2_with fail
  refine (trimSp_any _ i 0 3 false tb nl s _ (Blk.new' (by simp)) hs hi HT.out (by omega) (by omega)).mono ?_
  rintro e w1 ⟨j, h1, h2, h3, h4, h5, h6, hm⟩
  rcases h6 with ⟨rfl, _, hln⟩ | ⟨_, hbad, _⟩
  · have HLN := hid hln
    have HM := hid hm
    clear hln hm h4 h5
    go_wp2_with fail
    refine (trim_no _ j _ tb nl s _ HLN.out hs (.inr (HQ.out j h1 h2))).mono ?_
    rintro e w2 ⟨rfl, n2, rfl⟩
    have hm2 := HM.out.drewN n2
    have hbox : IsLn (w1.drewN n2) w.heap.size i tb s nl := (Blk.alloc (Blk.alloc (Blk.new' rfl) _) _ : Blk _ w.heap.size 104 (lnC i tb s nl)).mod hm2 (by show ¬ (w.heap.size = w.heap.size + 1 + 1); omega)
    have hres : Blk (w1.drewN n2) (w.heap.size + 1) 104 #[.int .i64 0, .int .i64 0, .int .i64 0, .string ⟨#[]⟩, .int .u8 0] := (Blk.alloc (Blk.new' (by simp)) _ : Blk _ (w.heap.size + 1) 104 #[.int .i64 0, .int .i64 0, .int .i64 0, .string ⟨#[]⟩, .int .u8 0]).mod hm2 (by show ¬ (w.heap.size + 1 = w.heap.size + 1 + 1); omega)
    have hbel : Below w.heap.size w (w1.drewN n2) := below_drewN (((((Below.refl _ _).alloc (Nat.le_refl _) _).alloc (by simp) _).alloc (by simp; omega) _).trans (Mod.toBelow HM.out (by simp; omega) (fun k hk h => by omega))) n2
    clear HM HLN hm2
    generalize w1.drewN n2 = wa at hbox hres hbel ⊢
    have c0 := hbox.c0
    have c1 := hbox.c1
    have c2 := hbox.c2
    have c3 := hbox.c3
    have c4 := hbox.c4
    have r0 := hres.at_ 0 rfl
    have r1 := hres.at_ 1 rfl
    have r2 := hres.at_ 2 rfl
    have r3 := hres.at_ 3 rfl
    have r4 := hres.at_ 4 rfl
    have fr := hres.free
    have HR := hid hres
    have HB := hid hbel
    clear hbox hres hbel
    go_wp2_with fail
    have hln := hid (ln_store HR.out i tb nl s)
    have hb2 : Hid (Below w.heap.size w _) := hid (((((HB.out.setCell (p := ⟨w.heap.size + 1, 0, none⟩) (by simp) (.int .i64 0)).setCell (p := ⟨w.heap.size + 1, 1, none⟩) (by simp) (.int .i64 i)).setCell (p := ⟨w.heap.size + 1, 2, none⟩) (by simp) (.int .i64 tb)).setCell (p := ⟨w.heap.size + 1, 3, none⟩) (by simp) (.string s)).setCell (p := ⟨w.heap.size + 1, 4, none⟩) (by simp) (.int .u8 nl))
    generalize World.setCell _ ⟨w.heap.size + 1, 4, none⟩ _ = wy at hln hb2 ⊢
    clear c0 c1 c2 c3 c4 r0 r1 r2 r3 r4 fr
    have k0 := hln.out.c0
    have k1 := hln.out.c1
    have k2 := hln.out.c2
    have k3 := hln.out.c3
    have k4 := hln.out.c4
    refine bodyPost_ret (by simp [results, Tryz.results127, go_sem, k0, k1, k2, k3, k4]; try rfl) rfl ?_
    exact ⟨rfl, hb2.out⟩
  · omega
set_option maxHeartbeats 1600000 in
theorem newQuote_no (g i : Nat) (tb nl : Int) (s : ByteArray) (w : World) (hs : s.size ≤ 140737488355328) (hi : i ≤ s.size) (ht : ∀ k, bt s k ≠ 9) (hq : ∀ k, i ≤ k → k ≤ i + 3 → bt s k ≠ 62) :
    Calls Tryz.prog 88 #[.pointer (some ⟨g, 0, none⟩), lnV i tb s nl] w fun e w' => e = .returned (.tuple #[lnV i tb s nl, .bool false]) ∧ Below w.heap.size w w' := by
  have HT := hid ht
  have HQ := hid hq
  clear ht hq
  go_enter Tryz.func88, Tryz.ntmps88
  go_wp2_with fail
  refine (trimQuote_no i tb nl s _ hs hi HT.out HQ.out).mono ?_
  rintro e w1 ⟨rfl, hb⟩
  have hm2 := Mod.below' (S := fun _ => False) hb
  have hbox : IsLn w1 w.heap.size i tb s nl := (Blk.alloc (Blk.new' rfl) _ : Blk _ w.heap.size 104 (lnC i tb s nl)).mod (S := fun _ => False) hm2 (fun h => h)
  have hres : Blk w1 (w.heap.size + 1) 104 #[.int .i64 0, .int .i64 0, .int .i64 0, .string ⟨#[]⟩, .int .u8 0] := (Blk.new' (by simp) : Blk _ (w.heap.size + 1) 104 #[.int .i64 0, .int .i64 0, .int .i64 0, .string ⟨#[]⟩, .int .u8 0]).mod (S := fun _ => False) hm2 (fun h => h)
  have hbel : Below w.heap.size w w1 := (((Below.refl _ _).alloc (Nat.le_refl _) _).alloc (by simp) _).trans (hb.mono (by simp; omega))
  have hl1 := Blk.lt hbox
  have hl2 := Blk.lt hres
  clear hb hm2
  have c0 := hbox.c0
  have c1 := hbox.c1
  have c2 := hbox.c2
  have c3 := hbox.c3
  have c4 := hbox.c4
  have r0 := hres.at_ 0 rfl
  have r1 := hres.at_ 1 rfl
  have r2 := hres.at_ 2 rfl
  have r3 := hres.at_ 3 rfl
  have r4 := hres.at_ 4 rfl
  have fr := hres.free
  have HR := hid hres
  have HB := hid hbel
  clear hbox hres hbel
  unfold lnV
  go_wp2_with fail
  have hln : Hid (IsLn _ (w.heap.size + 1) i tb s nl) := hid (Blk.alloc (ln_store HR.out i tb nl s) (.cells #[.int .i64 0, .int .i64 i, .int .i64 tb, .string s, .int .u8 nl] 104))
  have hb2 : Hid (Below w.heap.size w _) := hid ((((((HB.out.setCell (p := ⟨w.heap.size + 1, 0, none⟩) (by simp) (.int .i64 0)).setCell (p := ⟨w.heap.size + 1, 1, none⟩) (by simp) (.int .i64 i)).setCell (p := ⟨w.heap.size + 1, 2, none⟩) (by simp) (.int .i64 tb)).setCell (p := ⟨w.heap.size + 1, 3, none⟩) (by simp) (.string s)).setCell (p := ⟨w.heap.size + 1, 4, none⟩) (by simp) (.int .u8 nl)).alloc (by simp; omega) (.cells #[.int .i64 0, .int .i64 i, .int .i64 tb, .string s, .int .u8 nl] 104))
  generalize World.alloc _ _ = wy at hln hb2 ⊢
  clear c0 c1 c2 c3 c4 r0 r1 r2 r3 r4 fr
  have k0 := hln.out.c0
  have k1 := hln.out.c1
  have k2 := hln.out.c2
  have k3 := hln.out.c3
  have k4 := hln.out.c4
  refine bodyPost_ret (by simp [results, Tryz.results88, go_sem, k0, k1, k2, k3, k4]; try rfl) rfl ?_
  exact ⟨rfl, hb2.out⟩
set_option maxHeartbeats 1600000 in
theorem trimHeading_no (g i n : Nat) (tb nl : Int) (s : ByteArray) (w : World) (h : IsLn w g i tb s nl) (hs : s.size ≤ 140737488355328) (hi : i ≤ s.size) (ht : ∀ k, bt s k ≠ 9) (hq : ∀ k, i ≤ k → k ≤ i + 3 → bt s k ≠ 35) :
    Calls Tryz.prog 128 #[.pointer (some ⟨g, 0, none⟩), .pointer (some ⟨n, 0, none⟩)] w fun e w' => e = .returned (.bool false) ∧ Below w.heap.size w w' := by
  have h0 := h.c0
  have h1 := h.c1
  have h2 := h.c2
  have h3 := h.c3
  have h4 := h.c4
  have HT := hid ht
  have HQ := hid hq
  clear ht hq h
  go_enter Tryz.func128, Tryz.ntmps128
  go_wp2_with fail
  refine (trimSp_any _ i 0 3 false tb nl s _ (Blk.new' (by simp)) hs hi HT.out (by omega) (by omega)).mono ?_
  rintro e w1 ⟨j, a1, a2, a3, a4, a5, a6, hm⟩
  rcases a6 with ⟨rfl, _, hln⟩ | ⟨_, hbad, _⟩
  · have HLN := hid hln
    have HM := hid hm
    clear hln hm a4 a5
    go_wp2_with fail
    refine (trim_no _ j _ tb nl s _ HLN.out hs (.inr (HQ.out j a1 a2))).mono ?_
    rintro e w2 ⟨rfl, n2, rfl⟩
    go_wp2_with fail
    go_ret
    exact ⟨rfl, below_drewN (((Below.refl _ _).alloc (Nat.le_refl _) _).trans (Mod.toBelow HM.out (by simp) (fun k hk h => by omega))) n2⟩
  · omega
end Go.Proofs.YtmcjhcfhglfmlaaGreatDoor
