/- A line that begins a block while only the root is open. -/
import Derived.Test.YtmcjhcfhglfmlaaGreatDoorBlank
import Derived.Test.YtmcjhcfhglfmlaaGreatDoorDone
namespace Go.Proofs.YtmcjhcfhglfmlaaGreatDoor
open Go.RowKit
/-- The functions that begin blocks, in their order. -/
def newsL : List FuncId := [88, 89, 90, 91, 92, 93, 94, 95]
def newsC : Array Value := #[.func (.func 88) #[] #[], .func (.func 89) #[] #[], .func (.func 90) #[] #[], .func (.func 91) #[] #[], .func (.func 92) #[] #[], .func (.func 93) #[] #[], .func (.func 94) #[] #[], .func (.func 95) #[] #[]]
set_option maxRecDepth 20000 in
theorem news_any (w : World) : Calls Tryz.prog 64 #[] w fun e w' => ∃ n, e = .returned (.slice (some ⟨n, 0, none⟩) 8 8) ∧ w.heap.size ≤ n ∧ Blk w' n 124 newsC ∧ Below w.heap.size w w' := by
  go_enter Tryz.func64, Tryz.ntmps64
  go_wp2
  go_ret
  exact ⟨_, rfl, Nat.le_refl _, Blk.new _ _ _, (Below.refl _ _).alloc (Nat.le_refl _) _⟩
/-- What holds while the starters are tried: how many have declined. -/
def AddR (g lb n k : Nat) (r : PSr) (text : ByteArray) (nl : Int) (w : World) (t : Value) (wr : World) : Prop :=
  ∃ i : Nat, i ≤ k ∧ t = .int .i64 i ∧ Blk wr n 124 newsC ∧ IsLn wr lb 0 0 text nl ∧ IsPS wr g { r with lineDepth := 0 } ∧ Mod (fun k => k = g) w wr
def AddOneP (w : World) (Q : World → Prop) (e : Ending) (w' : World) : Prop :=
  e = .returned (.tuple #[]) ∧ ∃ w1 lb cs, Q w1 ∧ w.heap.size ≤ lb ∧ Blk w1 lb 104 cs ∧ Mod (fun k => k = lb) w1 w'
set_option maxRecDepth 20000 in
set_option maxHeartbeats 8000000 in
theorem addLine_one (g k : Nat) (r : PSr) (text : ByteArray) (nl : Int) (w : World) (Q : World → Prop) (hps : IsPS w g r) (hn : r.stack.n = 1) (hs : text.size ≤ 1000000) (hk : k < 8) (hbl : (trimL text.data.toList).isEmpty = false)
    (hdec : ∀ i f wr, i < k → newsL[i]? = some f → IsPS wr g { r with lineDepth := 0 } → Mod (fun k => k = g) w wr →
      Calls Tryz.prog f #[.pointer (some ⟨g, 0, none⟩), lnV 0 0 text nl] wr fun e w' => e = .returned (.tuple #[lnV 0 0 text nl, .bool false]) ∧ Below wr.heap.size wr w')
    (hacc : ∀ f wr, newsL[k]? = some f → IsPS wr g { r with lineDepth := 0 } → Mod (fun k => k = g) w wr →
      Calls Tryz.prog f #[.pointer (some ⟨g, 0, none⟩), lnV 0 0 text nl] wr fun e w' => e = .returned (.tuple #[lnV 0 0 ⟨#[]⟩ 0, .bool true]) ∧ Q w' ∧ wr.heap.size ≤ w'.heap.size ∧ ∀ lb cs, Blk wr lb 104 cs → Blk w' lb 104 cs) :
    Calls Tryz.prog 57 #[.pointer (some ⟨g, 0, none⟩), lnV 0 0 text nl] w (AddOneP w Q) := by
  have HDEC := hid hdec
  have HACC := hid hacc
  clear hdec hacc
  have hg := hps.lt
  have c5 := hps.c5
  have c4 := hps.c4
  rw [hn] at c4
  have f1 := hps.free
  have hgn : ¬ g = w.heap.size := by omega
  go_enter Tryz.func57, Tryz.ntmps57
  go_wp2_with fail
  go_step3
  go_wp2_with fail
  refine wp_loop_rounds 1 ?_
  rw [rounds_succ]
  go_wp2_with fail
  go_quiet (fail)
  go_wp2_with fail
  refine (isBlank_any w.heap.size text 0 _ (Nat.zero_le _) (by omega) (by simp [go_sem]) (by simp [go_sem])).mono ?_
  rintro e w1 ⟨rfl, n, rfl⟩
  rw [List.drop_zero, hbl, World.drewN_drewN]
  have hps1 : Hid (IsPS _ g { r with lineDepth := 0 }) := hid (((hps.set5 0).alloc (.cells #[.int .i64 0, .int .i64 0, .int .i64 0, .string text, .int .u8 nl] 104)).drewN (nq + n))
  have hl1 : Hid (Blk (World.drewN (World.alloc (w.setCell ⟨g, 5, none⟩ (.int .i64 0)) (.cells #[.int .i64 0, .int .i64 0, .int .i64 0, .string text, .int .u8 nl] 104)) (nq + n)) w.heap.size 104 #[.int .i64 0, .int .i64 0, .int .i64 0, .string text, .int .u8 nl]) := hid ((Blk.new' (by simp [World.setCell])).drewN _)
  have hm1 : Hid (Mod (fun k => k = g) w _) := hid ((((Mod.refl (fun k => k = g) w).setCell (p := ⟨g, 5, none⟩) (.inl rfl) (.int .i64 0)).alloc (.cells #[.int .i64 0, .int .i64 0, .int .i64 0, .string text, .int .u8 nl] 104)).drewN (nq + n))
  generalize World.drewN _ (nq + n) = wa at hps1 hl1 hm1 ⊢
  clear c4 c5 f1
  go_wp2_with fail
  go_step3
  go_wp2_with fail
  refine (news_any _).mono ?_
  rintro e w2 ⟨nb, rfl, hnb, hblk, hb⟩
  have m2 := Mod.below' (S := fun k => k = g) hb
  have m2' := Mod.below' (S := fun _ => False) hb
  have hps2 := hid (hps1.out.mod (S := fun _ => False) m2' (fun h => h))
  have hl2 : Hid (IsLn w2 w.heap.size 0 0 text nl) := hid (hl1.out.mod (S := fun _ => False) m2' (fun h => h))
  have hm2 := hid (hm1.out.trans m2 (fun _ _ h => h))
  have hblk2 := hid hblk
  clear hblk hb m2 m2' hps1 hl1 hm1
  go_wp2_with fail
  go_loopw [88] (fun t wr => AddR g w.heap.size nb k r text nl w t wr) (fun t _ => 8 - (intOf t).toNat)
  case atStart => exact ⟨0, Nat.zero_le _, rfl, hblk2.out, hl2.out, hps2.out, hm2.out⟩
  case round =>
    obtain ⟨i, hik, rfl, hN, hL, hP, hM⟩ := hrel
    clear hblk2 hl2 hps2 hm2
    unfold newsC at hN
    have q0 := hN.at_ 0 rfl
    have q1 := hN.at_ 1 rfl
    have q2 := hN.at_ 2 rfl
    have q3 := hN.at_ 3 rfl
    have q4 := hN.at_ 4 rfl
    have q5 := hN.at_ 5 rfl
    have q6 := hN.at_ 6 rfl
    have q7 := hN.at_ 7 rfl
    have c0 := hL.c0
    have c1 := hL.c1
    have c2 := hL.c2
    have c3 := hL.c3
    have c4 := hL.c4
    have fl := Blk.free hL
    have HN := hid hN
    have HL := hid hL
    have HP := hid hP
    have HM := hid hM
    clear hN hL hP hM
    rcases Nat.lt_or_ge i k with hlt | hge
    · have hi : i = 0 ∨ i = 1 ∨ i = 2 ∨ i = 3 ∨ i = 4 ∨ i = 5 ∨ i = 6 := by omega
      rcases hi with rfl | rfl | rfl | rfl | rfl | rfl | rfl
      all_goals
        go_wp2_with fail
        refine (HDEC.out _ _ _ hlt rfl HP.out HM.out).mono ?_
        rintro e w3 ⟨rfl, hb3⟩
        have m3 := Mod.below' (S := fun _ => False) hb3
        have HN3 := hid (HN.out.mod m3 (fun h => h))
        have HL3 := hid (HL.out.mod m3 (fun h => h))
        have HP3 := hid (HP.out.mod m3 (fun h => h))
        have HM3 := hid (HM.out.trans m3 (fun _ _ h => h.elim))
        clear m3 hb3 q0 q1 q2 q3 q4 q5 q6 q7 c0 c1 c2 c3 c4 fl
        unfold lnV
        go_wp2_with fail
        refine ⟨?_, by simp [intOf]⟩
        iterate 25 (apply Exists.intro)
        refine ⟨?_, rfl⟩
        exact ⟨_ + 1, hlt, rfl, HN3.out.alloc _, HL3.out.alloc _, HP3.out.alloc _, HM3.out.alloc _⟩
    · obtain rfl : i = k := by omega
      have hi : i = 0 ∨ i = 1 ∨ i = 2 ∨ i = 3 ∨ i = 4 ∨ i = 5 ∨ i = 6 ∨ i = 7 := by omega
      rcases hi with rfl | rfl | rfl | rfl | rfl | rfl | rfl | rfl
      all_goals
        go_wp2_with fail
        refine (HACC.out _ _ rfl HP.out HM.out).mono ?_
        rintro e w3 ⟨rfl, hq, hsz, hkeep⟩
        have hl3 := hkeep _ _ HL.out
        have hwz : w.heap.size ≤ w3.heap.size := Nat.le_trans HM.out.size hsz
        have fl3 := Blk.free hl3
        have d0 := Blk.at_ hl3 0 rfl
        have d1 := Blk.at_ hl3 1 rfl
        have d2 := Blk.at_ hl3 2 rfl
        have d3 := Blk.at_ hl3 3 rfl
        have d4 := Blk.at_ hl3 4 rfl
        have hlt3 := Blk.lt hl3
        have HQ := hid hq
        have HL3 := hid hl3
        clear hq hsz hkeep hl3 q0 q1 q2 q3 q4 q5 q6 q7 c0 c1 c2 c3 c4 fl
        unfold lnV
        go_wp2_with fail
        have hln : Hid (Blk _ w.heap.size 104 _) := hid (Blk.alloc (line_zero HL3.out) (.cells #[.int .i64 0, .int .i64 0, .int .i64 0, .string ⟨#[]⟩, .int .u8 0] 104))
        have hmy : Hid (Mod (fun k => k = w.heap.size) w3 _) := hid ((((((Mod.refl (fun k => k = w.heap.size) w3).setCell (p := ⟨w.heap.size, 0, none⟩) (.inl rfl) (.int .i64 0)).setCell (p := ⟨w.heap.size, 1, none⟩) (.inl rfl) (.int .i64 0)).setCell (p := ⟨w.heap.size, 2, none⟩) (.inl rfl) (.int .i64 0)).setCell (p := ⟨w.heap.size, 3, none⟩) (.inl rfl) (.string ⟨#[]⟩)).setCell (p := ⟨w.heap.size, 4, none⟩) (.inl rfl) (.int .u8 0) |>.alloc (.cells #[.int .i64 0, .int .i64 0, .int .i64 0, .string ⟨#[]⟩, .int .u8 0] 104))
        generalize World.alloc _ _ = wy at hln hmy ⊢
        clear d0 d1 d2 d3 d4 fl3
        refine (isBlank_any w.heap.size ⟨#[]⟩ 0 wy (Nat.zero_le _) (by simp [ByteArray.size]) (hln.out.at_ 1 rfl) (hln.out.at_ 3 rfl)).mono ?_
        rintro e w4 ⟨rfl, n4, rfl⟩
        have hE : (trimL (List.drop 0 (ByteArray.mk #[]).data.toList)).isEmpty = true := rfl
        rw [hE]
        go_wp2_with fail
        all_goals (try rw [Exit.noGoto_ret])
        go_returns
        exact ⟨rfl, w3, w.heap.size, _, HQ.out, Nat.le_refl _, HL3.out, hmy.out.drewN n4⟩
end Go.Proofs.YtmcjhcfhglfmlaaGreatDoor
