/- The block starters that decline a line: thematic breaks, HTML, fences, list items. -/
import Derived.Test.YtmcjhcfhglfmlaaGreatDoorTop
namespace Go.Proofs.YtmcjhcfhglfmlaaGreatDoor
open Go.RowKit
/-- Place k is reached from i over at most three spaces. -/
def Reach (s : ByteArray) (i k : Nat) : Prop := i ≤ k ∧ k ≤ i + 3 ∧ k ≤ s.size ∧ ∀ m, i ≤ m → m < k → bt s m = 32
set_option maxHeartbeats 1600000 in
theorem isHR_no (i : Nat) (tb nl : Int) (s : ByteArray) (w : World) (hs : s.size ≤ 140737488355328) (hi : i ≤ s.size) (ht : ∀ k, bt s k ≠ 9) (hq : ∀ k, Reach s i k → bt s k ≠ 42 ∧ bt s k ≠ 45 ∧ bt s k ≠ 95) :
    Calls Tryz.prog 140 #[lnV i tb s nl] w fun e w' => e = .returned (.bool false) ∧ Below w.heap.size w w' := by
  have HT := hid ht
  have HQ := hid hq
  clear ht hq
  go_enter Tryz.func140, Tryz.ntmps140
  go_wp2_with fail
  refine (trimSp_any _ i 0 3 false tb nl s _ (Blk.new' (by simp)) hs hi HT.out (by omega) (by omega)).mono ?_
  rintro e w1 ⟨j, h1, h2, h3, h4, h5, h6, hm⟩
  rcases h6 with ⟨rfl, _, hln⟩ | ⟨_, hbad, _⟩
  · obtain ⟨q1, q2, q3⟩ := HQ.out j ⟨h1, h2, h3, h4⟩
    have b1 : (bt s j == 42) = false := by simpa using q1
    have b2 : (bt s j == 45) = false := by simpa using q2
    have b3 : (bt s j == 95) = false := by simpa using q3
    have HLN := hid hln
    have HM := hid hm
    clear hln hm h4 h5
    go_wp2_with fail
    refine (peek_any _ j tb nl s _ HLN.out hs).mono ?_
    rintro e w2 ⟨rfl, n2, rfl⟩
    go_wp2_with fail
    go_ret
    exact ⟨rfl, below_drewN ((((Below.refl _ _).alloc (Nat.le_refl _) _).alloc (by simp) _).trans (Mod.toBelow HM.out (by simp; omega) (fun k hk h => by omega))) n2⟩
  · omega
set_option maxHeartbeats 1600000 in
theorem newHR_no (g i : Nat) (tb nl : Int) (s : ByteArray) (w : World) (hs : s.size ≤ 140737488355328) (hi : i ≤ s.size) (ht : ∀ k, bt s k ≠ 9) (hq : ∀ k, Reach s i k → bt s k ≠ 42 ∧ bt s k ≠ 45 ∧ bt s k ≠ 95) :
    Calls Tryz.prog 91 #[.pointer (some ⟨g, 0, none⟩), lnV i tb s nl] w fun e w' => e = .returned (.tuple #[lnV i tb s nl, .bool false]) ∧ Below w.heap.size w w' := by
  have HT := hid ht
  have HQ := hid hq
  clear ht hq
  go_enter Tryz.func91, Tryz.ntmps91
  go_wp2_with fail
  refine (isHR_no i tb nl s _ hs hi HT.out HQ.out).mono ?_
  rintro e w1 ⟨rfl, hb⟩
  have hm2 := Mod.below' (S := fun _ => False) hb
  have hbox : IsLn w1 w.heap.size i tb s nl := (Blk.alloc (Blk.new' rfl) _ : Blk _ w.heap.size 104 (lnC i tb s nl)).mod (S := fun _ => False) hm2 (fun h => h)
  have hres : Blk w1 (w.heap.size + 1) 104 #[.int .i64 0, .int .i64 0, .int .i64 0, .string ⟨#[]⟩, .int .u8 0] := (Blk.new' (by simp) : Blk _ (w.heap.size + 1) 104 #[.int .i64 0, .int .i64 0, .int .i64 0, .string ⟨#[]⟩, .int .u8 0]).mod (S := fun _ => False) hm2 (fun h => h)
  have hbel : Below w.heap.size w w1 := (((Below.refl _ _).alloc (Nat.le_refl _) _).alloc (by simp) _).trans (hb.mono (by simp; omega))
  clear hb hm2
  have c0 := hbox.c0
  have c1 := hbox.c1
  have c2 := hbox.c2
  have c3 := hbox.c3
  have c4 := hbox.c4
  have r0 := hres.at_ 0 rfl
  have r1 := hres.at_ 1 rfl
  have r2 := hres.at_ 2 rfl
  have r3 := hres.at_ 3 rfl
  have r4 := hres.at_ 4 rfl
  have fr := hres.free
  have HR := hid hres
  have HB := hid hbel
  clear hbox hres hbel
  unfold lnV
  go_wp2_with fail
  have hln : Hid (IsLn _ (w.heap.size + 1) i tb s nl) := hid (ln_store HR.out i tb nl s)
  have hb2 : Hid (Below w.heap.size w _) := hid (((((HB.out.setCell (p := ⟨w.heap.size + 1, 0, none⟩) (by simp) (.int .i64 0)).setCell (p := ⟨w.heap.size + 1, 1, none⟩) (by simp) (.int .i64 i)).setCell (p := ⟨w.heap.size + 1, 2, none⟩) (by simp) (.int .i64 tb)).setCell (p := ⟨w.heap.size + 1, 3, none⟩) (by simp) (.string s)).setCell (p := ⟨w.heap.size + 1, 4, none⟩) (by simp) (.int .u8 nl))
  generalize World.setCell _ ⟨w.heap.size + 1, 4, none⟩ _ = wy at hln hb2 ⊢
  clear c0 c1 c2 c3 c4 r0 r1 r2 r3 r4 fr
  have k0 := hln.out.c0
  have k1 := hln.out.c1
  have k2 := hln.out.c2
  have k3 := hln.out.c3
  have k4 := hln.out.c4
  refine bodyPost_ret (by simp [results, Tryz.results91, go_sem, k0, k1, k2, k3, k4]; try rfl) rfl ?_
  exact ⟨rfl, hb2.out⟩
set_option maxRecDepth 20000 in
set_option maxHeartbeats 1600000 in
theorem startHTML_no (g b i : Nat) (tb nl : Int) (s : ByteArray) (w : World) (h : IsLn w b i tb s nl) (hs : s.size ≤ 140737488355328) (hi : i ≤ s.size) (ht : ∀ k, bt s k ≠ 9) (hq : ∀ k, Reach s i k → bt s k ≠ 60) :
    Calls Tryz.prog 143 #[.pointer (some ⟨g, 0, none⟩), .pointer (some ⟨b, 0, none⟩)] w fun e w' => e = .returned (.bool false) ∧ Below w.heap.size w w' := by
  have h0 := h.c0
  have h1 := h.c1
  have h2 := h.c2
  have h3 := h.c3
  have h4 := h.c4
  have HT := hid ht
  have HQ := hid hq
  clear ht hq h
  go_enter Tryz.func143, Tryz.ntmps143
  go_wp2_with fail
  go_step3
  go_wp2_with fail
  refine (trimSp_any _ i 0 3 false tb nl s _ (Blk.new' rfl) hs hi HT.out (by omega) (by omega)).mono ?_
  rintro e w1 ⟨j, a1, a2, a3, a4, a5, a6, hm⟩
  rcases a6 with ⟨rfl, _, hln⟩ | ⟨_, hbad, _⟩
  · have q1 : (bt s j == 60) = false := by simpa using HQ.out j ⟨a1, a2, a3, a4⟩
    have HLN := hid hln
    have HM := hid hm
    clear hln hm a4 a5
    go_wp2_with fail
    refine (peek_any _ j tb nl s _ HLN.out hs).mono ?_
    rintro e w2 ⟨rfl, n2, rfl⟩
    go_wp2_with fail
    all_goals (try rw [Exit.noGoto_ret])
    go_ret
    exact ⟨rfl, below_drewN (((Below.refl _ _).alloc (Nat.le_refl _) _).trans (Mod.toBelow HM.out (by simp) (fun k hk h => by omega))) n2⟩
  · omega
set_option maxRecDepth 20000 in
set_option maxHeartbeats 1600000 in
theorem newHTML_no (g i : Nat) (tb nl : Int) (s : ByteArray) (w : World) (hs : s.size ≤ 140737488355328) (hi : i ≤ s.size) (ht : ∀ k, bt s k ≠ 9) (hq : ∀ k, Reach s i k → bt s k ≠ 60) :
    Calls Tryz.prog 93 #[.pointer (some ⟨g, 0, none⟩), lnV i tb s nl] w fun e w' => e = .returned (.tuple #[lnV i tb s nl, .bool false]) ∧ Below w.heap.size w w' := by
  have HT := hid ht
  have HQ := hid hq
  clear ht hq
  go_enter Tryz.func93, Tryz.ntmps93
  go_wp2_with fail
  refine (startHTML_no g _ i tb nl s _ (Blk.new' (by simp)) hs hi HT.out HQ.out).mono ?_
  rintro e w1 ⟨rfl, hb⟩
  have hm2 := Mod.below' (S := fun _ => False) hb
  have hbox : IsLn w1 w.heap.size i tb s nl := (Blk.alloc (Blk.alloc (Blk.new' rfl) _) _ : Blk _ w.heap.size 104 (lnC i tb s nl)).mod (S := fun _ => False) hm2 (fun h => h)
  have hres : Blk w1 (w.heap.size + 1) 104 #[.int .i64 0, .int .i64 0, .int .i64 0, .string ⟨#[]⟩, .int .u8 0] := (Blk.alloc (Blk.new' (by simp)) _ : Blk _ (w.heap.size + 1) 104 #[.int .i64 0, .int .i64 0, .int .i64 0, .string ⟨#[]⟩, .int .u8 0]).mod (S := fun _ => False) hm2 (fun h => h)
  have hbel : Below w.heap.size w w1 := ((((Below.refl _ _).alloc (Nat.le_refl _) _).alloc (by simp) _).alloc (by simp; omega) _).trans (hb.mono (by simp; omega))
  clear hb hm2
  have c0 := hbox.c0
  have c1 := hbox.c1
  have c2 := hbox.c2
  have c3 := hbox.c3
  have c4 := hbox.c4
  have r0 := hres.at_ 0 rfl
  have r1 := hres.at_ 1 rfl
  have r2 := hres.at_ 2 rfl
  have r3 := hres.at_ 3 rfl
  have r4 := hres.at_ 4 rfl
  have fr := hres.free
  have HR := hid hres
  have HB := hid hbel
  clear hbox hres hbel
  unfold lnV
  go_wp2_with fail
  have hln : Hid (IsLn _ (w.heap.size + 1) i tb s nl) := hid (ln_store HR.out i tb nl s)
  have hb2 : Hid (Below w.heap.size w _) := hid (((((HB.out.setCell (p := ⟨w.heap.size + 1, 0, none⟩) (by simp) (.int .i64 0)).setCell (p := ⟨w.heap.size + 1, 1, none⟩) (by simp) (.int .i64 i)).setCell (p := ⟨w.heap.size + 1, 2, none⟩) (by simp) (.int .i64 tb)).setCell (p := ⟨w.heap.size + 1, 3, none⟩) (by simp) (.string s)).setCell (p := ⟨w.heap.size + 1, 4, none⟩) (by simp) (.int .u8 nl))
  generalize World.setCell _ ⟨w.heap.size + 1, 4, none⟩ _ = wy at hln hb2 ⊢
  clear c0 c1 c2 c3 c4 r0 r1 r2 r3 r4 fr
  have k0 := hln.out.c0
  have k1 := hln.out.c1
  have k2 := hln.out.c2
  have k3 := hln.out.c3
  have k4 := hln.out.c4
  refine bodyPost_ret (by simp [results, Tryz.results93, go_sem, k0, k1, k2, k3, k4]; try rfl) rfl ?_
  exact ⟨rfl, hb2.out⟩
/-- How many spaces a counter holds. -/
def cntI (w : World) (n : Nat) : Nat := match w.cell? ⟨n, 0, none⟩ with
  | some v => (intOf v).toNat
  | none => 0
theorem cntI_of {w : World} {n m : Nat} {t : TypeId} (h : Blk w n t #[.int .i64 m]) : cntI w n = m := by
  unfold cntI
  rw [h.at_ 0 rfl]
  simp [intOf]
theorem stop_here (s : ByteArray) (i j : Nat) (hi : i ≤ j) (hj : j ≤ i + 3) (hs : j ≤ s.size) (h : ∀ m, i ≤ m → m < j → bt s m = 32) : Reach s i j := ⟨hi, hj, hs, h⟩
def FenceR (b n i : Nat) (tb nl : Int) (s : ByteArray) (w0 : World) (wr : World) : Prop :=
  ∃ m j : Nat, m ≤ 3 ∧ j = i + m ∧ j ≤ s.size ∧ (∀ k, i ≤ k → k < j → bt s k = 32) ∧ IsLn wr b j tb s nl ∧ Blk wr n 3 #[.int .i64 m] ∧ Mod (fun k => k = n) w0 wr
set_option maxRecDepth 20000 in
set_option maxHeartbeats 1600000 in
theorem trimFence_no (b n i f u : Nat) (v : Value) (tb nl : Int) (s : ByteArray) (w : World) (h : IsLn w b i tb s nl) (hn : Blk w n 3 #[v]) (hs : s.size ≤ 140737488355328) (hi : i ≤ s.size) (ht : ∀ k, bt s k ≠ 9) (hq : ∀ k, Reach s i k → bt s k ≠ 96 ∧ bt s k ≠ 126) :
    Calls Tryz.prog 144 #[.pointer (some ⟨b, 0, none⟩), .pointer (some ⟨f, 0, none⟩), .pointer (some ⟨u, 0, none⟩), .pointer (some ⟨n, 0, none⟩)] w fun e w' => e = .returned (.bool false) ∧ Mod (fun k => k = n) w w' := by
  have h0 := h.c0
  have h1 := h.c1
  have h2 := h.c2
  have h3 := h.c3
  have h4 := h.c4
  have hlt := Blk.lt h
  have hnlt := Blk.lt hn
  have n0 := hn.at_ 0 rfl
  have fn := hn.free 0
  have hbn : b ≠ n := Blk.ne_ h hn (by decide)
  have HT := hid ht
  have HQ := hid hq
  have HN := hid hn
  clear ht hq h hn
  go_enter Tryz.func144, Tryz.ntmps144
  go_wp2_with fail
  go_loopw [] (fun wr => FenceR w.heap.size n i tb nl s w wr) (fun wr => 4 - cntI wr n)
  case atStart => exact ⟨0, i, by omega, by omega, hi, fun k a b => absurd a (by omega), Blk.new' (by simp), by simpa using (Blk.alloc (Blk.set_ HN.out 0 (.int .i64 0)) _), ((Mod.refl (fun k => k = n) w).setCell (p := ⟨n, 0, none⟩) (.inl rfl) _).alloc _⟩
  case round =>
    obtain ⟨m, _, hm, rfl, hjs, hsp, hln, hnb, hmod⟩ := hrel
    have hcnt := cntI_of hnb
    have q0 := hnb.at_ 0 rfl
    have fq := hnb.free 0
    have HSP := hid hsp
    have HLN := hid hln
    have HNB := hid hnb
    have HMOD := hid hmod
    have HCNT := hid hcnt
    clear n0 fn h0 h1 h2 h3 h4 hsp hln hnb hmod hcnt
    have hnw : n ≠ w.heap.size := by omega
    have hwn : w.heap.size ≠ n := by omega
    by_cases hgo : m < 3 ∧ (i + m) < s.size ∧ bt s (i + m) = 32
    · obtain ⟨hm3, hjs', h32⟩ := hgo
      go_wp2_with fail
      refine (trimSp_any _ (i + m) 1 1 false tb nl s _ HLN.out hs hjs HT.out (by omega) (by omega)).mono ?_
      rintro e w2 ⟨j', a1, a2, a3, a4, a5, a6, hm2⟩
      rcases a6 with ⟨rfl, _, hl2⟩ | ⟨_, a7, _, _, _⟩
      · have hj' : j' = (i + m) + 1 := by
          rcases Nat.lt_or_ge j' ((i + m) + 1) with h | h
          · have hjj : j' = i + m := by omega
            rw [hjj] at a5
            exact absurd h32 (a5 (by omega) hjs')
          · omega
        subst hj'
        have hn2 := HNB.out.mod hm2 hnw
        have q1 := hn2.at_ 0 rfl
        have fq1 := hn2.free 0
        have HL2 := hid hl2
        have HM2 := hid hm2
        have HN2 := hid hn2
        clear q0 fq a4 a5 hl2 hm2 hn2
        go_wp2_with fail
        go_roundw
        case rel => exact ⟨m + 1, (i + m) + 1, by omega, by omega, by omega, fun k h1 h2 => by
          rcases Nat.lt_or_ge k (i + m) with h | h
          · exact HSP.out k h1 h
          · have hkk : k = i + m := by omega
            rw [hkk]; exact h32, HL2.out.far hwn _, by simpa using (Blk.set_ HN2.out 0 (.int .i64 ((m : Int) + 1))), (HMOD.out.trans (S' := fun k => k = w.heap.size) HM2.out (fun k h1 h2 => by omega)).setCell (.inl rfl) _⟩
        case measure => rw [cntI_of (m := m + 1) (by simpa using (Blk.set_ HN2.out 0 (.int .i64 ((m : Int) + 1)))), HCNT.out]; omega
      · have hjj : j' = i + m := by omega
        rw [hjj] at a5
        exact absurd h32 (a5 (by omega) (by omega))
    · have hqq := HQ.out (i + m) ⟨by omega, by omega, hjs, HSP.out⟩
      have b1 : (bt s (i + m) == 96) = false := by simpa using hqq.1
      have b2 : (bt s (i + m) == 126) = false := by simpa using hqq.2
      clear hqq
      by_cases hm3 : m < 3
      · have hno : (i + m) < s.size → bt s (i + m) ≠ 32 := fun h1 h2 => hgo ⟨hm3, h1, h2⟩
        have HNO := hid hno
        clear hgo hno
        go_wp2_with fail
        refine (trimSp_any _ (i + m) 1 1 false tb nl s _ HLN.out hs hjs HT.out (by omega) (by omega)).mono ?_
        rintro e w2 ⟨j', a1, a2, a3, a4, a5, a6, hm2⟩
        rcases a6 with ⟨_, a7, _⟩ | ⟨rfl, _, _, _, hl2⟩
        · exfalso
          rcases Nat.lt_or_ge (i + m) j' with h | h
          · exact HNO.out (by omega) (a4 (i + m) (Nat.le_refl _) h)
          · rcases a7 with h1 | h1 | h1
            · omega
            · omega
            · cases h1.1
        · have HL2 := hid hl2
          have HM2 := hid hm2
          clear a4 a5 hl2 hm2
          go_wp2_with fail
          refine (peek_any _ (i + m) tb nl s _ HL2.out hs).mono ?_
          rintro e w3 ⟨rfl, n3, rfl⟩
          go_wp2_with fail
          go_ret
          exact ⟨rfl, (HMOD.out.trans (S' := fun k => k = w.heap.size) HM2.out (fun k h1 h2 => by omega)).drewN n3⟩
      · obtain rfl : m = 3 := by omega
        clear hgo
        go_wp2_with fail
        refine (peek_any _ (i + 3) tb nl s _ HLN.out hs).mono ?_
        rintro e w3 ⟨rfl, n3, rfl⟩
        go_wp2_with fail
        go_ret
        exact ⟨rfl, HMOD.out.drewN n3⟩
end Go.Proofs.YtmcjhcfhglfmlaaGreatDoor
