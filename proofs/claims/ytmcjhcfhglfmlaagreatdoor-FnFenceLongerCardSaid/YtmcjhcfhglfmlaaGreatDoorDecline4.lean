/- The block starters that decline a line: fences, list items. -/
import Derived.Test.YtmcjhcfhglfmlaaGreatDoorDecline3
namespace Go.Proofs.YtmcjhcfhglfmlaaGreatDoor
open Go.RowKit
set_option maxRecDepth 20000 in
set_option maxHeartbeats 1600000 in
theorem newFence_no (g i : Nat) (tb nl : Int) (s : ByteArray) (w : World) (hs : s.size ≤ 140737488355328) (hi : i ≤ s.size) (ht : ∀ k, bt s k ≠ 9) (hq : ∀ k, Reach s i k → bt s k ≠ 96 ∧ bt s k ≠ 126) :
    Calls Tryz.prog 94 #[.pointer (some ⟨g, 0, none⟩), lnV i tb s nl] w fun e w' => e = .returned (.tuple #[lnV i tb s nl, .bool false]) ∧ Below w.heap.size w w' := by
  have HT := hid ht
  have HQ := hid hq
  clear ht hq
  go_enter Tryz.func94, Tryz.ntmps94
  go_wp2_with fail
  refine (trimFence_no _ (w.heap.size + 1 + 1 + 1 + 1) i _ _ _ tb nl s _ (Blk.new' (by simp)) (Blk.alloc (Blk.new' (by simp)) _) hs hi HT.out HQ.out).mono ?_
  rintro e w1 ⟨rfl, hb⟩
  have hm2 := hb
  have hbox : IsLn w1 w.heap.size i tb s nl := (Blk.alloc (Blk.alloc (Blk.alloc (Blk.alloc (Blk.alloc (Blk.new' rfl) _) _) _) _) _ : Blk _ w.heap.size 104 (lnC i tb s nl)).mod hm2 (by show ¬ (w.heap.size = w.heap.size + 1 + 1 + 1 + 1); omega)
  have hres : Blk w1 (w.heap.size + 1) 104 #[.int .i64 0, .int .i64 0, .int .i64 0, .string ⟨#[]⟩, .int .u8 0] := (Blk.alloc (Blk.alloc (Blk.alloc (Blk.alloc (Blk.new' (by simp)) _) _) _) _ : Blk _ (w.heap.size + 1) 104 #[.int .i64 0, .int .i64 0, .int .i64 0, .string ⟨#[]⟩, .int .u8 0]).mod hm2 (by show ¬ (w.heap.size + 1 = w.heap.size + 1 + 1 + 1 + 1); omega)
  have hbel : Below w.heap.size w w1 := (((((((Below.refl _ _).alloc (Nat.le_refl _) _).alloc (by simp) _).alloc (by simp; omega) _).alloc (by simp; omega) _).alloc (by simp; omega) _).alloc (by simp; omega) _).trans (Mod.toBelow hb (by simp; omega) (fun k hk h => by omega))
  clear hb hm2
  have c0 := hbox.c0
  have c1 := hbox.c1
  have c2 := hbox.c2
  have c3 := hbox.c3
  have c4 := hbox.c4
  have r0 := hres.at_ 0 rfl
  have r1 := hres.at_ 1 rfl
  have r2 := hres.at_ 2 rfl
  have r3 := hres.at_ 3 rfl
  have r4 := hres.at_ 4 rfl
  have fr := hres.free
  have HR := hid hres
  have HB := hid hbel
  clear hbox hres hbel
  unfold lnV
  go_wp2_with fail
  have hln : Hid (IsLn _ (w.heap.size + 1) i tb s nl) := hid (ln_store HR.out i tb nl s)
  have hb2 : Hid (Below w.heap.size w _) := hid (((((HB.out.setCell (p := ⟨w.heap.size + 1, 0, none⟩) (by simp) (.int .i64 0)).setCell (p := ⟨w.heap.size + 1, 1, none⟩) (by simp) (.int .i64 i)).setCell (p := ⟨w.heap.size + 1, 2, none⟩) (by simp) (.int .i64 tb)).setCell (p := ⟨w.heap.size + 1, 3, none⟩) (by simp) (.string s)).setCell (p := ⟨w.heap.size + 1, 4, none⟩) (by simp) (.int .u8 nl))
  generalize World.setCell _ ⟨w.heap.size + 1, 4, none⟩ _ = wy at hln hb2 ⊢
  clear c0 c1 c2 c3 c4 r0 r1 r2 r3 r4 fr
  have k0 := hln.out.c0
  have k1 := hln.out.c1
  have k2 := hln.out.c2
  have k3 := hln.out.c3
  have k4 := hln.out.c4
  refine bodyPost_ret (by simp [results, Tryz.results94, go_sem, k0, k1, k2, k3, k4]; try rfl) rfl ?_
  exact ⟨rfl, hb2.out⟩
theorem ta_root_list (p : Option Addr) (w : World) : (Instr.typeAssert (.iface 98 (.pointer p)) 118 242 true).run Tryz.prog w = .ok (.tuple #[.pointer none, .bool false]) w := by kernel_rfl
set_option maxHeartbeats 1600000 in
theorem curB_root (B g : Nat) (r : PSr) (e0 : Ent) (w : World) (hps : IsPS w g r) (hst : IsStack w B r.stack ([] ++ [e0])) (hd : r.lineDepth = 0) :
    Calls Tryz.prog 141 #[.pointer (some ⟨g, 0, none⟩)] w fun e w' => e = .returned (.iface e0.bt e0.bv) ∧ ∃ n, w' = w.drewN n := by
  obtain ⟨sb, cap, hv, hcap, hfr, hob, hsb, hBs, k0, k1, k2, k3⟩ := hst.top
  have c4 := hps.c4
  have c5 := hps.c5
  rw [hv] at c4
  rw [hd] at c5
  simp only [List.length_nil, Nat.zero_mul] at k0 c4
  have HV := hid hv
  have HOB := hid hob
  clear hv hob hd
  go_enter Tryz.func141, Tryz.ntmps141
  go_wp2
  go_quiet (fail)
  go_wp2
  go_quiet (fail)
  go_wp2
  go_ret
  exact ⟨rfl, _, World.drewN_drewN _ _ _⟩
def ItemR (b i : Nat) (tb nl : Int) (s : ByteArray) (w0 : World) (t6 t7 : Value) (wr : World) : Prop :=
  ∃ m : Nat, m ≤ 3 ∧ t6 = .int .i64 m ∧ t7 = .int .i64 m ∧ i + m ≤ s.size ∧ (∀ k, i ≤ k → k < i + m → bt s k = 32) ∧ IsLn wr b (i + m) tb s nl ∧ Below w0.heap.size w0 wr
/-- A byte that begins no list item. -/
def NoItem (z : Int) : Prop := z ≠ 45 ∧ z ≠ 42 ∧ z ≠ 43 ∧ (z < 48 ∨ 57 < z)
set_option maxRecDepth 20000 in
set_option maxHeartbeats 4000000 in
theorem startListItem_no (g b i : Nat) (tb nl : Int) (s : ByteArray) (w : World) (h : IsLn w b i tb s nl) (hs : s.size ≤ 140737488355328) (hi : i ≤ s.size) (ht : ∀ k, bt s k ≠ 9) (hq : ∀ k, Reach s i k → NoItem (bt s k)) :
    Calls Tryz.prog 142 #[.pointer (some ⟨g, 0, none⟩), .pointer (some ⟨b, 0, none⟩)] w fun e w' => e = .returned (.bool false) ∧ Below w.heap.size w w' := by
  have h0 := h.c0
  have h1 := h.c1
  have h2 := h.c2
  have h3 := h.c3
  have h4 := h.c4
  have hlt := Blk.lt h
  have HT := hid ht
  have HQ := hid hq
  clear ht hq h
  go_enter Tryz.func142, Tryz.ntmps142
  go_wp2_with fail
  go_step3
  go_wp2_with fail
  go_loopw [6, 7] (fun t6 t7 wr => ItemR (w.heap.size + 1) i tb nl s w t6 t7 wr) (fun _ t7 _ => 4 - (intOf t7).toNat)
  case atStart => exact ⟨0, by omega, rfl, rfl, hi, fun k a b => absurd a (by omega), Blk.new' (by simp), ((Below.refl _ _).alloc (Nat.le_refl _) _).alloc (by simp) _⟩
  case round =>
    obtain ⟨m, hm, rfl, rfl, hjs, hsp, hln, hbel⟩ := hrel
    have HSP := hid hsp
    have HLN := hid hln
    have HBL := hid hbel
    clear h0 h1 h2 h3 h4 hsp hln hbel
    by_cases hgo : m < 3 ∧ i + m < s.size ∧ bt s (i + m) = 32
    · obtain ⟨hm3, hjs', h32⟩ := hgo
      go_wp2_with fail
      refine (trimSp_any _ (i + m) 1 1 false tb nl s _ HLN.out hs hjs HT.out (by omega) (by omega)).mono ?_
      rintro e w2 ⟨j', a1, a2, a3, a4, a5, a6, hm2⟩
      rcases a6 with ⟨rfl, _, hl2⟩ | ⟨_, a7, _, _, _⟩
      · have hj' : j' = i + m + 1 := by
          rcases Nat.lt_or_ge j' (i + m + 1) with h | h
          · have hjj : j' = i + m := by omega
            rw [hjj] at a5
            exact absurd h32 (a5 (by omega) hjs')
          · omega
        subst hj'
        have HL2 := hid hl2
        have HM2 := hid hm2
        clear a4 a5 hl2 hm2
        go_wp2_with fail
        go_roundw
        case rel => exact ⟨m + 1, by omega, by go_num, by go_num, by omega, fun k h1 h2 => by
          rcases Nat.lt_or_ge k (i + m) with h | h
          · exact HSP.out k h1 h
          · have hkk : k = i + m := by omega
            rw [hkk]; exact h32, HL2.out, HBL.out.trans (Mod.toBelow HM2.out HBL.out.size (fun k hk h => by omega))⟩
        case measure => simp [intOf]; omega
      · have hjj : j' = i + m := by omega
        rw [hjj] at a5
        exact absurd h32 (a5 (by omega) (by omega))
    · obtain ⟨q1, q2, q3, q4⟩ := HQ.out (i + m) ⟨by omega, by omega, hjs, HSP.out⟩
      have b1 : (bt s (i + m) == 45) = false := by simpa using q1
      have b2 : (bt s (i + m) == 42) = false := by simpa using q2
      have b3 : (bt s (i + m) == 43) = false := by simpa using q3
      have d0 : (bt s (i + m) == 48) = false := by have : bt s (i + m) ≠ 48 := by omega
                                                   simpa using this
      have d1 : (bt s (i + m) == 49) = false := by have : bt s (i + m) ≠ 49 := by omega
                                                   simpa using this
      have d2 : (bt s (i + m) == 50) = false := by have : bt s (i + m) ≠ 50 := by omega
                                                   simpa using this
      have d3 : (bt s (i + m) == 51) = false := by have : bt s (i + m) ≠ 51 := by omega
                                                   simpa using this
      have d4 : (bt s (i + m) == 52) = false := by have : bt s (i + m) ≠ 52 := by omega
                                                   simpa using this
      have d5 : (bt s (i + m) == 53) = false := by have : bt s (i + m) ≠ 53 := by omega
                                                   simpa using this
      have d6 : (bt s (i + m) == 54) = false := by have : bt s (i + m) ≠ 54 := by omega
                                                   simpa using this
      have d7 : (bt s (i + m) == 55) = false := by have : bt s (i + m) ≠ 55 := by omega
                                                   simpa using this
      have d8 : (bt s (i + m) == 56) = false := by have : bt s (i + m) ≠ 56 := by omega
                                                   simpa using this
      have d9 : (bt s (i + m) == 57) = false := by have : bt s (i + m) ≠ 57 := by omega
                                                   simpa using this
      clear q1 q2 q3 q4
      by_cases hm3 : m < 3
      · have hno : i + m < s.size → bt s (i + m) ≠ 32 := fun h1 h2 => hgo ⟨hm3, h1, h2⟩
        have HNO := hid hno
        clear hgo hno
        go_wp2_with fail
        refine (trimSp_any _ (i + m) 1 1 false tb nl s _ HLN.out hs hjs HT.out (by omega) (by omega)).mono ?_
        rintro e w2 ⟨j', a1, a2, a3, a4, a5, a6, hm2⟩
        rcases a6 with ⟨_, a7, _⟩ | ⟨rfl, _, _, _, hl2⟩
        · exfalso
          rcases Nat.lt_or_ge (i + m) j' with h | h
          · exact HNO.out (by omega) (a4 (i + m) (Nat.le_refl _) h)
          · rcases a7 with h1 | h1 | h1
            · omega
            · omega
            · cases h1.1
        · have HL2 := hid hl2
          have HM2 := hid hm2
          clear a4 a5 hl2 hm2
          go_wp2_with fail
          refine (peek_any _ (i + m) tb nl s _ HL2.out hs).mono ?_
          rintro e w3 ⟨rfl, n3, rfl⟩
          go_wp2_with fail
          go_step3
          go_wp2_with fail
          all_goals (try rw [Exit.noGoto_ret])
          go_ret
          exact ⟨rfl, below_drewN (HBL.out.trans (Mod.toBelow HM2.out HBL.out.size (fun k hk h => by omega))) n3⟩
      · obtain rfl : m = 3 := by omega
        clear hgo
        go_wp2_with fail
        refine (peek_any _ (i + 3) tb nl s _ HLN.out hs).mono ?_
        rintro e w3 ⟨rfl, n3, rfl⟩
        go_wp2_with fail
        go_step3
        go_wp2_with fail
        all_goals (try rw [Exit.noGoto_ret])
        go_ret
        exact ⟨rfl, below_drewN HBL.out n3⟩
set_option maxRecDepth 20000 in
set_option maxHeartbeats 1600000 in
theorem newListItem_no (B g i : Nat) (r : PSr) (e0 : Ent) (p : Option Addr) (tb nl : Int) (s : ByteArray) (w : World) (hps : IsPS w g r) (hst : IsStack w B r.stack ([] ++ [e0])) (hd : r.lineDepth = 0) (hb1 : e0.bt = 98) (hb2 : e0.bv = .pointer p)
    (hs : s.size ≤ 140737488355328) (hi : i ≤ s.size) (ht : ∀ k, bt s k ≠ 9) (hq : ∀ k, Reach s i k → NoItem (bt s k)) :
    Calls Tryz.prog 92 #[.pointer (some ⟨g, 0, none⟩), lnV i tb s nl] w fun e w' => e = .returned (.tuple #[lnV i tb s nl, .bool false]) ∧ Below w.heap.size w w' := by
  have HT := hid ht
  have HQ := hid hq
  have HPS := hid hps
  have HST := hid hst
  have ta := ta_root_list p
  have hl1 := hps.lt
  clear ht hq hps hst
  go_enter Tryz.func92, Tryz.ntmps92
  go_wp2_with fail
  refine (curB_root B g r e0 _ ((HPS.out.alloc _).alloc _) ((HST.out.alloc _).alloc _) hd).mono ?_
  rintro e w1 ⟨rfl, n1, rfl⟩
  rw [hb1, hb2]
  go_wp2_with fail
  refine (startListItem_no g _ i tb nl s _ (Blk.drewN (Blk.alloc (Blk.new' rfl) _) n1) hs hi HT.out HQ.out).mono ?_
  rintro e w1 ⟨rfl, hb⟩
  have hm2 := Mod.below' (S := fun _ => False) hb
  have hbox : IsLn w1 w.heap.size i tb s nl := (Blk.drewN (Blk.alloc (Blk.new' rfl) _) n1 : Blk _ w.heap.size 104 (lnC i tb s nl)).mod (S := fun _ => False) hm2 (fun h => h)
  have hres : Blk w1 (w.heap.size + 1) 104 #[.int .i64 0, .int .i64 0, .int .i64 0, .string ⟨#[]⟩, .int .u8 0] := (Blk.drewN (Blk.new' (by simp)) n1 : Blk _ (w.heap.size + 1) 104 #[.int .i64 0, .int .i64 0, .int .i64 0, .string ⟨#[]⟩, .int .u8 0]).mod (S := fun _ => False) hm2 (fun h => h)
  have hbel : Below w.heap.size w w1 := (below_drewN (((Below.refl _ _).alloc (Nat.le_refl _) _).alloc (by simp) _) n1).trans (hb.mono (by simp; omega))
  clear hb hm2
  have c0 := hbox.c0
  have c1 := hbox.c1
  have c2 := hbox.c2
  have c3 := hbox.c3
  have c4 := hbox.c4
  have r0 := hres.at_ 0 rfl
  have r1 := hres.at_ 1 rfl
  have r2 := hres.at_ 2 rfl
  have r3 := hres.at_ 3 rfl
  have r4 := hres.at_ 4 rfl
  have fr := hres.free
  have HR := hid hres
  have HB := hid hbel
  clear hbox hres hbel
  unfold lnV
  go_wp2_with fail
  have hln : Hid (IsLn _ (w.heap.size + 1) i tb s nl) := hid (ln_store HR.out i tb nl s)
  have hb2 : Hid (Below w.heap.size w _) := hid (((((HB.out.setCell (p := ⟨w.heap.size + 1, 0, none⟩) (by simp) (.int .i64 0)).setCell (p := ⟨w.heap.size + 1, 1, none⟩) (by simp) (.int .i64 i)).setCell (p := ⟨w.heap.size + 1, 2, none⟩) (by simp) (.int .i64 tb)).setCell (p := ⟨w.heap.size + 1, 3, none⟩) (by simp) (.string s)).setCell (p := ⟨w.heap.size + 1, 4, none⟩) (by simp) (.int .u8 nl))
  generalize World.setCell _ ⟨w.heap.size + 1, 4, none⟩ _ = wy at hln hb2 ⊢
  clear c0 c1 c2 c3 c4 r0 r1 r2 r3 r4 fr
  have k0 := hln.out.c0
  have k1 := hln.out.c1
  have k2 := hln.out.c2
  have k3 := hln.out.c3
  have k4 := hln.out.c4
  refine bodyPost_ret (by simp [results, Tryz.results92, go_sem, k0, k1, k2, k3, k4]; try rfl) rfl ?_
  exact ⟨rfl, hb2.out⟩
end Go.Proofs.YtmcjhcfhglfmlaaGreatDoor
