/- Texts of this proof, joined: The block starters that decline a line: fences, list items, The starter of setext headings declines where no paragraph is open, The starter of quotations declines a line, where no sign of it is reached. -/
import Derived.Test.YtmmijmhdbpldpaaGreatDoorCInt05
import Derived.Test.YtmmijmhdbpldpaaGreatDoorCInt04
import Derived.Test.YtmmijmhdbpldpaaGreatDoorCInt02
/- The block starters that decline a line: fences, list items. -/

namespace Go.Proofs.YtmmijmhdbpldpaaGreatDoor
open Go.RowKit
set_option maxRecDepth 20000 in
set_option maxHeartbeats 1600000 in
theorem newFence_no (g i : Nat) (tb nl : Int) (s : ByteArray) (w : World) (hs : s.size ≤ 140737488355328) (hi : i ≤ s.size) (ht : ∀ k, bt s k ≠ 9) (hq : ∀ k, Reach s i k → bt s k ≠ 96 ∧ bt s k ≠ 126) :
    Calls Tryz.prog 91 #[.pointer (some ⟨g, 0, none⟩), lnV i tb s nl] w fun e w' => e = .returned (.tuple #[lnV i tb s nl, .bool false]) ∧ Below w.heap.size w w' := by
  have HT := hid ht
  have HQ := hid hq
  clear ht hq
  go_enter Tryz.func91, Tryz.ntmps91
  go_wp2_with fail
  refine (trimFence_no _ (w.heap.size + 1 + 1 + 1 + 1) i _ _ _ tb nl s _ (Blk.new' (by simp)) (Blk.alloc (Blk.new' (by simp)) _) hs hi HT.out HQ.out).mono ?_
  rintro e w1 ⟨rfl, hb⟩
  have hm2 := hb
  have hbox : IsLn w1 w.heap.size i tb s nl := (Blk.alloc (Blk.alloc (Blk.alloc (Blk.alloc (Blk.alloc (Blk.new' rfl) _) _) _) _) _ : Blk _ w.heap.size 104 (lnC i tb s nl)).mod hm2 (by show ¬ (w.heap.size = w.heap.size + 1 + 1 + 1 + 1); omega)
  have hres : Blk w1 (w.heap.size + 1) 104 #[.int .i64 0, .int .i64 0, .int .i64 0, .string ⟨#[]⟩, .int .u8 0] := (Blk.alloc (Blk.alloc (Blk.alloc (Blk.alloc (Blk.new' (by simp)) _) _) _) _ : Blk _ (w.heap.size + 1) 104 #[.int .i64 0, .int .i64 0, .int .i64 0, .string ⟨#[]⟩, .int .u8 0]).mod hm2 (by show ¬ (w.heap.size + 1 = w.heap.size + 1 + 1 + 1 + 1); omega)
  have hbel : Below w.heap.size w w1 := (((((((Below.refl _ _).alloc (Nat.le_refl _) _).alloc (by simp) _).alloc (by simp; omega) _).alloc (by simp; omega) _).alloc (by simp; omega) _).alloc (by simp; omega) _).trans (Mod.toBelow hb (by simp; omega) (fun k hk h => by omega))
  clear hb hm2
  have c0 := hbox.c0
  have c1 := hbox.c1
  have c2 := hbox.c2
  have c3 := hbox.c3
  have c4 := hbox.c4
  have r0 := hres.at_ 0 rfl
  have r1 := hres.at_ 1 rfl
  have r2 := hres.at_ 2 rfl
  have r3 := hres.at_ 3 rfl
  have r4 := hres.at_ 4 rfl
  have fr := hres.free
  have HR := hid hres
  have HB := hid hbel
  clear hbox hres hbel
  unfold lnV
  go_wp2_with fail
  have hln : Hid (IsLn _ (w.heap.size + 1) i tb s nl) := hid (ln_store HR.out i tb nl s)
  have hb2 : Hid (Below w.heap.size w _) := hid (((((HB.out.setCell (p := ⟨w.heap.size + 1, 0, none⟩) (by simp) (.int .i64 0)).setCell (p := ⟨w.heap.size + 1, 1, none⟩) (by simp) (.int .i64 i)).setCell (p := ⟨w.heap.size + 1, 2, none⟩) (by simp) (.int .i64 tb)).setCell (p := ⟨w.heap.size + 1, 3, none⟩) (by simp) (.string s)).setCell (p := ⟨w.heap.size + 1, 4, none⟩) (by simp) (.int .u8 nl))
  generalize World.setCell _ ⟨w.heap.size + 1, 4, none⟩ _ = wy at hln hb2 ⊢
  clear c0 c1 c2 c3 c4 r0 r1 r2 r3 r4 fr
  have k0 := hln.out.c0
  have k1 := hln.out.c1
  have k2 := hln.out.c2
  have k3 := hln.out.c3
  have k4 := hln.out.c4
  refine bodyPost_ret (by simp [results, Tryz.results91, go_sem, k0, k1, k2, k3, k4]; try rfl) rfl ?_
  exact ⟨rfl, hb2.out⟩
theorem ta_root_list (p : Option Addr) (w : World) : (Instr.typeAssert (.iface 98 (.pointer p)) 118 242 true).run Tryz.prog w = .ok (.tuple #[.pointer none, .bool false]) w := by kernel_rfl
set_option maxHeartbeats 1600000 in
theorem curB_root (B g : Nat) (r : PSr) (e0 : Ent) (w : World) (hps : IsPS w g r) (hst : IsStack w B r.stack ([] ++ [e0])) (hd : r.lineDepth = 0) :
    Calls Tryz.prog 138 #[.pointer (some ⟨g, 0, none⟩)] w fun e w' => e = .returned (.iface e0.bt e0.bv) ∧ ∃ n, w' = w.drewN n := by
  obtain ⟨sb, cap, hv, hcap, hfr, hob, hsb, hBs, k0, k1, k2, k3⟩ := hst.top
  have c4 := hps.c4
  have c5 := hps.c5
  rw [hv] at c4
  rw [hd] at c5
  simp only [List.length_nil, Nat.zero_mul] at k0 c4
  have HV := hid hv
  have HOB := hid hob
  clear hv hob hd
  go_enter Tryz.func138, Tryz.ntmps138
  go_wp2
  go_quiet (fail)
  go_wp2
  go_quiet (fail)
  go_wp2
  go_ret
  exact ⟨rfl, _, World.drewN_drewN _ _ _⟩
def ItemR (b i : Nat) (tb nl : Int) (s : ByteArray) (w0 : World) (t6 t7 : Value) (wr : World) : Prop :=
  ∃ m : Nat, m ≤ 3 ∧ t6 = .int .i64 m ∧ t7 = .int .i64 m ∧ i + m ≤ s.size ∧ (∀ k, i ≤ k → k < i + m → bt s k = 32) ∧ IsLn wr b (i + m) tb s nl ∧ Below w0.heap.size w0 wr
/-- A byte that begins no list item. -/
def NoItem (z : Int) : Prop := z ≠ 45 ∧ z ≠ 42 ∧ z ≠ 43 ∧ (z < 48 ∨ 57 < z)
set_option maxRecDepth 20000 in
set_option maxHeartbeats 4000000 in
theorem startListItem_no (g b i : Nat) (tb nl : Int) (s : ByteArray) (w : World) (h : IsLn w b i tb s nl) (hs : s.size ≤ 140737488355328) (hi : i ≤ s.size) (ht : ∀ k, bt s k ≠ 9) (hq : ∀ k, Reach s i k → NoItem (bt s k)) :
    Calls Tryz.prog 139 #[.pointer (some ⟨g, 0, none⟩), .pointer (some ⟨b, 0, none⟩)] w fun e w' => e = .returned (.bool false) ∧ Below w.heap.size w w' := by
  have h0 := h.c0
  have h1 := h.c1
  have h2 := h.c2
  have h3 := h.c3
  have h4 := h.c4
  have hlt := Blk.lt h
  have HT := hid ht
  have HQ := hid hq
  clear ht hq h
  go_enter Tryz.func139, Tryz.ntmps139
  go_wp2_with fail
  go_step3
  go_wp2_with fail
  go_loopw [6, 7] (fun t6 t7 wr => ItemR (w.heap.size + 1) i tb nl s w t6 t7 wr) (fun _ t7 _ => 4 - (intOf t7).toNat)
  case atStart => exact ⟨0, by omega, rfl, rfl, hi, fun k a b => absurd a (by omega), Blk.new' (by simp), ((Below.refl _ _).alloc (Nat.le_refl _) _).alloc (by simp) _⟩
  case round =>
    obtain ⟨m, hm, rfl, rfl, hjs, hsp, hln, hbel⟩ := hrel
    have HSP := hid hsp
    have HLN := hid hln
    have HBL := hid hbel
    clear h0 h1 h2 h3 h4 hsp hln hbel
    by_cases hgo : m < 3 ∧ i + m < s.size ∧ bt s (i + m) = 32
    · obtain ⟨hm3, hjs', h32⟩ := hgo
      go_wp2_with fail
      refine (trimSp_any _ (i + m) 1 1 false tb nl s _ HLN.out hs hjs HT.out (by omega) (by omega)).mono ?_
      rintro e w2 ⟨j', a1, a2, a3, a4, a5, a6, hm2⟩
      rcases a6 with ⟨rfl, _, hl2⟩ | ⟨_, a7, _, _, _⟩
      · have hj' : j' = i + m + 1 := by
          rcases Nat.lt_or_ge j' (i + m + 1) with h | h
          · have hjj : j' = i + m := by omega
            rw [hjj] at a5
            exact absurd h32 (a5 (by omega) hjs')
          · omega
        subst hj'
        have HL2 := hid hl2
        have HM2 := hid hm2
        clear a4 a5 hl2 hm2
        go_wp2_with fail
        go_roundw
        case rel => exact ⟨m + 1, by omega, by go_num, by go_num, by omega, fun k h1 h2 => by
          rcases Nat.lt_or_ge k (i + m) with h | h
          · exact HSP.out k h1 h
          · have hkk : k = i + m := by omega
            rw [hkk]; exact h32, HL2.out, HBL.out.trans (Mod.toBelow HM2.out HBL.out.size (fun k hk h => by omega))⟩
        case measure => simp [intOf]; omega
      · have hjj : j' = i + m := by omega
        rw [hjj] at a5
        exact absurd h32 (a5 (by omega) (by omega))
    · obtain ⟨q1, q2, q3, q4⟩ := HQ.out (i + m) ⟨by omega, by omega, hjs, HSP.out⟩
      have b1 : (bt s (i + m) == 45) = false := by simpa using q1
      have b2 : (bt s (i + m) == 42) = false := by simpa using q2
      have b3 : (bt s (i + m) == 43) = false := by simpa using q3
      have d0 : (bt s (i + m) == 48) = false := by have : bt s (i + m) ≠ 48 := by omega
                                                   simpa using this
      have d1 : (bt s (i + m) == 49) = false := by have : bt s (i + m) ≠ 49 := by omega
                                                   simpa using this
      have d2 : (bt s (i + m) == 50) = false := by have : bt s (i + m) ≠ 50 := by omega
                                                   simpa using this
      have d3 : (bt s (i + m) == 51) = false := by have : bt s (i + m) ≠ 51 := by omega
                                                   simpa using this
      have d4 : (bt s (i + m) == 52) = false := by have : bt s (i + m) ≠ 52 := by omega
                                                   simpa using this
      have d5 : (bt s (i + m) == 53) = false := by have : bt s (i + m) ≠ 53 := by omega
                                                   simpa using this
      have d6 : (bt s (i + m) == 54) = false := by have : bt s (i + m) ≠ 54 := by omega
                                                   simpa using this
      have d7 : (bt s (i + m) == 55) = false := by have : bt s (i + m) ≠ 55 := by omega
                                                   simpa using this
      have d8 : (bt s (i + m) == 56) = false := by have : bt s (i + m) ≠ 56 := by omega
                                                   simpa using this
      have d9 : (bt s (i + m) == 57) = false := by have : bt s (i + m) ≠ 57 := by omega
                                                   simpa using this
      clear q1 q2 q3 q4
      by_cases hm3 : m < 3
      · have hno : i + m < s.size → bt s (i + m) ≠ 32 := fun h1 h2 => hgo ⟨hm3, h1, h2⟩
        have HNO := hid hno
        clear hgo hno
        go_wp2_with fail
        refine (trimSp_any _ (i + m) 1 1 false tb nl s _ HLN.out hs hjs HT.out (by omega) (by omega)).mono ?_
        rintro e w2 ⟨j', a1, a2, a3, a4, a5, a6, hm2⟩
        rcases a6 with ⟨_, a7, _⟩ | ⟨rfl, _, _, _, hl2⟩
        · exfalso
          rcases Nat.lt_or_ge (i + m) j' with h | h
          · exact HNO.out (by omega) (a4 (i + m) (Nat.le_refl _) h)
          · rcases a7 with h1 | h1 | h1
            · omega
            · omega
            · cases h1.1
        · have HL2 := hid hl2
          have HM2 := hid hm2
          clear a4 a5 hl2 hm2
          go_wp2_with fail
          refine (peek_any _ (i + m) tb nl s _ HL2.out hs).mono ?_
          rintro e w3 ⟨rfl, n3, rfl⟩
          go_wp2_with fail
          go_step3
          go_wp2_with fail
          all_goals (try rw [Exit.noGoto_ret])
          go_ret
          exact ⟨rfl, below_drewN (HBL.out.trans (Mod.toBelow HM2.out HBL.out.size (fun k hk h => by omega))) n3⟩
      · obtain rfl : m = 3 := by omega
        clear hgo
        go_wp2_with fail
        refine (peek_any _ (i + 3) tb nl s _ HLN.out hs).mono ?_
        rintro e w3 ⟨rfl, n3, rfl⟩
        go_wp2_with fail
        go_step3
        go_wp2_with fail
        all_goals (try rw [Exit.noGoto_ret])
        go_ret
        exact ⟨rfl, below_drewN HBL.out n3⟩
set_option maxRecDepth 20000 in
set_option maxHeartbeats 1600000 in
theorem newListItem_no (B g i : Nat) (r : PSr) (e0 : Ent) (p : Option Addr) (tb nl : Int) (s : ByteArray) (w : World) (hps : IsPS w g r) (hst : IsStack w B r.stack ([] ++ [e0])) (hd : r.lineDepth = 0) (hb1 : e0.bt = 98) (hb2 : e0.bv = .pointer p)
    (hs : s.size ≤ 140737488355328) (hi : i ≤ s.size) (ht : ∀ k, bt s k ≠ 9) (hq : ∀ k, Reach s i k → NoItem (bt s k)) :
    Calls Tryz.prog 89 #[.pointer (some ⟨g, 0, none⟩), lnV i tb s nl] w fun e w' => e = .returned (.tuple #[lnV i tb s nl, .bool false]) ∧ Below w.heap.size w w' := by
  have HT := hid ht
  have HQ := hid hq
  have HPS := hid hps
  have HST := hid hst
  have ta := ta_root_list p
  have hl1 := hps.lt
  clear ht hq hps hst
  go_enter Tryz.func89, Tryz.ntmps89
  go_wp2_with fail
  refine (curB_root B g r e0 _ ((HPS.out.alloc _).alloc _) ((HST.out.alloc _).alloc _) hd).mono ?_
  rintro e w1 ⟨rfl, n1, rfl⟩
  rw [hb1, hb2]
  go_wp2_with fail
  refine (startListItem_no g _ i tb nl s _ (Blk.drewN (Blk.alloc (Blk.new' rfl) _) n1) hs hi HT.out HQ.out).mono ?_
  rintro e w1 ⟨rfl, hb⟩
  have hm2 := Mod.below' (S := fun _ => False) hb
  have hbox : IsLn w1 w.heap.size i tb s nl := (Blk.drewN (Blk.alloc (Blk.new' rfl) _) n1 : Blk _ w.heap.size 104 (lnC i tb s nl)).mod (S := fun _ => False) hm2 (fun h => h)
  have hres : Blk w1 (w.heap.size + 1) 104 #[.int .i64 0, .int .i64 0, .int .i64 0, .string ⟨#[]⟩, .int .u8 0] := (Blk.drewN (Blk.new' (by simp)) n1 : Blk _ (w.heap.size + 1) 104 #[.int .i64 0, .int .i64 0, .int .i64 0, .string ⟨#[]⟩, .int .u8 0]).mod (S := fun _ => False) hm2 (fun h => h)
  have hbel : Below w.heap.size w w1 := (below_drewN (((Below.refl _ _).alloc (Nat.le_refl _) _).alloc (by simp) _) n1).trans (hb.mono (by simp; omega))
  clear hb hm2
  have c0 := hbox.c0
  have c1 := hbox.c1
  have c2 := hbox.c2
  have c3 := hbox.c3
  have c4 := hbox.c4
  have r0 := hres.at_ 0 rfl
  have r1 := hres.at_ 1 rfl
  have r2 := hres.at_ 2 rfl
  have r3 := hres.at_ 3 rfl
  have r4 := hres.at_ 4 rfl
  have fr := hres.free
  have HR := hid hres
  have HB := hid hbel
  clear hbox hres hbel
  unfold lnV
  go_wp2_with fail
  have hln : Hid (IsLn _ (w.heap.size + 1) i tb s nl) := hid (ln_store HR.out i tb nl s)
  have hb2 : Hid (Below w.heap.size w _) := hid (((((HB.out.setCell (p := ⟨w.heap.size + 1, 0, none⟩) (by simp) (.int .i64 0)).setCell (p := ⟨w.heap.size + 1, 1, none⟩) (by simp) (.int .i64 i)).setCell (p := ⟨w.heap.size + 1, 2, none⟩) (by simp) (.int .i64 tb)).setCell (p := ⟨w.heap.size + 1, 3, none⟩) (by simp) (.string s)).setCell (p := ⟨w.heap.size + 1, 4, none⟩) (by simp) (.int .u8 nl))
  generalize World.setCell _ ⟨w.heap.size + 1, 4, none⟩ _ = wy at hln hb2 ⊢
  clear c0 c1 c2 c3 c4 r0 r1 r2 r3 r4 fr
  have k0 := hln.out.c0
  have k1 := hln.out.c1
  have k2 := hln.out.c2
  have k3 := hln.out.c3
  have k4 := hln.out.c4
  refine bodyPost_ret (by simp [results, Tryz.results89, go_sem, k0, k1, k2, k3, k4]; try rfl) rfl ?_
  exact ⟨rfl, hb2.out⟩
end Go.Proofs.YtmmijmhdbpldpaaGreatDoor
/- The starter of setext headings declines where no paragraph is open. -/

namespace Go.Proofs.YtmmijmhdbpldpaaGreatDoor
open Go.RowKit
theorem nil_ne_para (w : World) : Sem.run Tryz.prog (binOp BinOp.eql 118 .nilIface (.iface 162 (.pointer none))) w = .ok (.bool false) w := by kernel_rfl
set_option maxRecDepth 20000 in
set_option maxHeartbeats 1600000 in
theorem newSetext_no (B g i : Nat) (r : PSr) (es : List Ent) (e0 : Ent) (p : Option Addr) (tb nl : Int) (s : ByteArray) (w : World) (hps : IsPS w g r) (hst : IsStack w B r.stack (es ++ [e0])) (hn : es.length ≤ 900000)
    (hd : r.lineDepth = (r.stack.n : Int) - 1) (hb : e0.bt = 98) (hb2 : e0.bv = .pointer p) :
    Calls Tryz.prog 87 #[.pointer (some ⟨g, 0, none⟩), lnV i tb s nl] w fun e w' => e = .returned (.tuple #[lnV i tb s nl, .bool false]) ∧ Below w.heap.size w w' := by
  have HN := hid hst.1
  have HPS := hid hps
  have HST := hid hst
  have hg := hps.lt
  clear hps hst
  have ie := nil_ne_para
  go_enter Tryz.func87, Tryz.ntmps87
  go_wp2_with fail
  refine (nextB_top g r _ ((((HPS.out.alloc _).alloc _).alloc _).alloc _) hd (by have := HN.out; simp at this; omega)).mono ?_
  rintro e w1 ⟨rfl, n1, rfl⟩
  go_wp2_with fail
  refine (para_top B g r es e0 p _ (((((HPS.out.alloc _).alloc _).alloc _).alloc _).drewN n1) (((((HST.out.alloc _).alloc _).alloc _).alloc _).drewN n1) (by omega) hb hb2).mono ?_
  rintro e w2 ⟨rfl, n2, rfl⟩
  have hres : Blk _ (w.heap.size + 1) 104 #[.int .i64 0, .int .i64 0, .int .i64 0, .string ⟨#[]⟩, .int .u8 0] := Blk.drewN (Blk.alloc (Blk.alloc (Blk.new' (w := w.alloc (.cells #[.int .i64 0, .int .i64 i, .int .i64 tb, .string s, .int .u8 nl] 104)) (by simp)) (.cells #[.int .i64 0] 3)) (.cells #[.int .i64 0, .int .i64 i, .int .i64 tb, .string s, .int .u8 nl] 104)) (n1 + n2)
  have hbox : IsLn _ w.heap.size i tb s nl := Blk.drewN (Blk.alloc (Blk.alloc (Blk.alloc (Blk.new' (w := w) rfl : Blk _ w.heap.size 104 (lnC i tb s nl)) (.cells #[.int .i64 0, .int .i64 0, .int .i64 0, .string ⟨#[]⟩, .int .u8 0] 104)) (.cells #[.int .i64 0] 3)) (.cells #[.int .i64 0, .int .i64 i, .int .i64 tb, .string s, .int .u8 nl] 104)) (n1 + n2)
  have hbel : Below w.heap.size w _ := below_drewN (((((Below.refl w.heap.size w).alloc (Nat.le_refl _) (.cells #[.int .i64 0, .int .i64 i, .int .i64 tb, .string s, .int .u8 nl] 104)).alloc (by simp) (.cells #[.int .i64 0, .int .i64 0, .int .i64 0, .string ⟨#[]⟩, .int .u8 0] 104)).alloc (by simp; omega) (.cells #[.int .i64 0] 3)).alloc (by simp; omega) (.cells #[.int .i64 0, .int .i64 i, .int .i64 tb, .string s, .int .u8 nl] 104)) (n1 + n2)
  have hl : (lnC i tb s nl) = #[.int .i64 0, .int .i64 i, .int .i64 tb, .string s, .int .u8 nl] := rfl
  rw [hl] at hbox
  rw [World.drewN_drewN]
  generalize World.drewN _ (n1 + n2) = wa at hres hbox hbel ⊢
  have c0 := hbox.c0
  have c1 := hbox.c1
  have c2 := hbox.c2
  have c3 := hbox.c3
  have c4 := hbox.c4
  have r0 := hres.at_ 0 rfl
  have r1 := hres.at_ 1 rfl
  have r2 := hres.at_ 2 rfl
  have r3 := hres.at_ 3 rfl
  have r4 := hres.at_ 4 rfl
  have fr := hres.free
  have HR := hid hres
  have HB := hid hbel
  clear hbox hres hbel
  unfold lnV
  go_wp2_with fail
  have hln : Hid (IsLn _ (w.heap.size + 1) i tb s nl) := hid (ln_store HR.out i tb nl s)
  have hb3 : Hid (Below w.heap.size w _) := hid (((((HB.out.setCell (p := ⟨w.heap.size + 1, 0, none⟩) (by simp) (.int .i64 0)).setCell (p := ⟨w.heap.size + 1, 1, none⟩) (by simp) (.int .i64 i)).setCell (p := ⟨w.heap.size + 1, 2, none⟩) (by simp) (.int .i64 tb)).setCell (p := ⟨w.heap.size + 1, 3, none⟩) (by simp) (.string s)).setCell (p := ⟨w.heap.size + 1, 4, none⟩) (by simp) (.int .u8 nl))
  generalize World.setCell _ ⟨w.heap.size + 1, 4, none⟩ _ = wy at hln hb3 ⊢
  clear c0 c1 c2 c3 c4 r0 r1 r2 r3 r4 fr
  have k0 := hln.out.c0
  have k1 := hln.out.c1
  have k2 := hln.out.c2
  have k3 := hln.out.c3
  have k4 := hln.out.c4
  refine bodyPost_ret (by simp [results, Tryz.results87, go_sem, k0, k1, k2, k3, k4]; try rfl) rfl ?_
  exact ⟨rfl, hb3.out⟩
end Go.Proofs.YtmmijmhdbpldpaaGreatDoor
/- The starter of quotations declines a line, where no sign of it is reached. -/


namespace Go.Proofs.YtmmijmhdbpldpaaGreatDoor
open Go.RowKit
set_option maxHeartbeats 1600000 in
theorem trimQuote_no2 (i : Nat) (tb nl : Int) (s : ByteArray) (w : World) (hs : s.size ≤ 140737488355328) (hi : i ≤ s.size) (ht : ∀ k, bt s k ≠ 9) (hq : ∀ k, Reach s i k → bt s k ≠ 62) :
    Calls Tryz.prog 124 #[lnV i tb s nl] w fun e w' => e = .returned (.tuple #[lnV i tb s nl, .bool false]) ∧ Below w.heap.size w w' := by
  have HT := hid ht
  have HQ := hid hq
  clear ht hq
  go_enter Tryz.func124, Tryz.ntmps124
  go_wp2_with fail
  refine (trimSp_any _ i 0 3 false tb nl s _ (Blk.new' (by simp)) hs hi HT.out (by omega) (by omega)).mono ?_
  rintro e w1 ⟨j, h1, h2, h3, h4, h5, h6, hm⟩
  rcases h6 with ⟨rfl, _, hln⟩ | ⟨_, hbad, _⟩
  · have HLN := hid hln
    have HM := hid hm
    have HJ := hid (show Reach s i j from ⟨h1, h2, h3, h4⟩)
    clear hln hm h4 h5
    go_wp2_with fail
    refine (trim_no _ j _ tb nl s _ HLN.out hs (.inr (HQ.out j HJ.out))).mono ?_
    rintro e w2 ⟨rfl, n2, rfl⟩
    have hm2 := HM.out.drewN n2
    have hbox : IsLn (w1.drewN n2) w.heap.size i tb s nl := (Blk.alloc (Blk.alloc (Blk.new' rfl) _) _ : Blk _ w.heap.size 104 (lnC i tb s nl)).mod hm2 (by show ¬ (w.heap.size = w.heap.size + 1 + 1); omega)
    have hres : Blk (w1.drewN n2) (w.heap.size + 1) 104 #[.int .i64 0, .int .i64 0, .int .i64 0, .string ⟨#[]⟩, .int .u8 0] := (Blk.alloc (Blk.new' (by simp)) _ : Blk _ (w.heap.size + 1) 104 #[.int .i64 0, .int .i64 0, .int .i64 0, .string ⟨#[]⟩, .int .u8 0]).mod hm2 (by show ¬ (w.heap.size + 1 = w.heap.size + 1 + 1); omega)
    have hbel : Below w.heap.size w (w1.drewN n2) := below_drewN (((((Below.refl _ _).alloc (Nat.le_refl _) _).alloc (by simp) _).alloc (by simp; omega) _).trans (Mod.toBelow HM.out (by simp; omega) (fun k hk h => by omega))) n2
    clear HM HLN hm2
    generalize w1.drewN n2 = wa at hbox hres hbel ⊢
    have c0 := hbox.c0
    have c1 := hbox.c1
    have c2 := hbox.c2
    have c3 := hbox.c3
    have c4 := hbox.c4
    have r0 := hres.at_ 0 rfl
    have r1 := hres.at_ 1 rfl
    have r2 := hres.at_ 2 rfl
    have r3 := hres.at_ 3 rfl
    have r4 := hres.at_ 4 rfl
    have fr := hres.free
    have HR := hid hres
    have HB := hid hbel
    clear hbox hres hbel
    go_wp2_with fail
    have hln := hid (ln_store HR.out i tb nl s)
    have hb2 : Hid (Below w.heap.size w _) := hid (((((HB.out.setCell (p := ⟨w.heap.size + 1, 0, none⟩) (by simp) (.int .i64 0)).setCell (p := ⟨w.heap.size + 1, 1, none⟩) (by simp) (.int .i64 i)).setCell (p := ⟨w.heap.size + 1, 2, none⟩) (by simp) (.int .i64 tb)).setCell (p := ⟨w.heap.size + 1, 3, none⟩) (by simp) (.string s)).setCell (p := ⟨w.heap.size + 1, 4, none⟩) (by simp) (.int .u8 nl))
    generalize World.setCell _ ⟨w.heap.size + 1, 4, none⟩ _ = wy at hln hb2 ⊢
    clear c0 c1 c2 c3 c4 r0 r1 r2 r3 r4 fr
    have k0 := hln.out.c0
    have k1 := hln.out.c1
    have k2 := hln.out.c2
    have k3 := hln.out.c3
    have k4 := hln.out.c4
    refine bodyPost_ret (by simp [results, Tryz.results124, go_sem, k0, k1, k2, k3, k4]; try rfl) rfl ?_
    exact ⟨rfl, hb2.out⟩
  · omega
set_option maxHeartbeats 1600000 in
theorem newQuote_no2 (g i : Nat) (tb nl : Int) (s : ByteArray) (w : World) (hs : s.size ≤ 140737488355328) (hi : i ≤ s.size) (ht : ∀ k, bt s k ≠ 9) (hq : ∀ k, Reach s i k → bt s k ≠ 62) :
    Calls Tryz.prog 85 #[.pointer (some ⟨g, 0, none⟩), lnV i tb s nl] w fun e w' => e = .returned (.tuple #[lnV i tb s nl, .bool false]) ∧ Below w.heap.size w w' := by
  have HT := hid ht
  have HQ := hid hq
  clear ht hq
  go_enter Tryz.func85, Tryz.ntmps85
  go_wp2_with fail
  refine (trimQuote_no2 i tb nl s _ hs hi HT.out HQ.out).mono ?_
  rintro e w1 ⟨rfl, hb⟩
  have hm2 := Mod.below' (S := fun _ => False) hb
  have hbox : IsLn w1 w.heap.size i tb s nl := (Blk.alloc (Blk.new' rfl) _ : Blk _ w.heap.size 104 (lnC i tb s nl)).mod (S := fun _ => False) hm2 (fun h => h)
  have hres : Blk w1 (w.heap.size + 1) 104 #[.int .i64 0, .int .i64 0, .int .i64 0, .string ⟨#[]⟩, .int .u8 0] := (Blk.new' (by simp) : Blk _ (w.heap.size + 1) 104 #[.int .i64 0, .int .i64 0, .int .i64 0, .string ⟨#[]⟩, .int .u8 0]).mod (S := fun _ => False) hm2 (fun h => h)
  have hbel : Below w.heap.size w w1 := (((Below.refl _ _).alloc (Nat.le_refl _) _).alloc (by simp) _).trans (hb.mono (by simp; omega))
  have hl1 := Blk.lt hbox
  have hl2 := Blk.lt hres
  clear hb hm2
  have c0 := hbox.c0
  have c1 := hbox.c1
  have c2 := hbox.c2
  have c3 := hbox.c3
  have c4 := hbox.c4
  have r0 := hres.at_ 0 rfl
  have r1 := hres.at_ 1 rfl
  have r2 := hres.at_ 2 rfl
  have r3 := hres.at_ 3 rfl
  have r4 := hres.at_ 4 rfl
  have fr := hres.free
  have HR := hid hres
  have HB := hid hbel
  clear hbox hres hbel
  unfold lnV
  go_wp2_with fail
  have hln : Hid (IsLn _ (w.heap.size + 1) i tb s nl) := hid (Blk.alloc (ln_store HR.out i tb nl s) (.cells #[.int .i64 0, .int .i64 i, .int .i64 tb, .string s, .int .u8 nl] 104))
  have hb2 : Hid (Below w.heap.size w _) := hid ((((((HB.out.setCell (p := ⟨w.heap.size + 1, 0, none⟩) (by simp) (.int .i64 0)).setCell (p := ⟨w.heap.size + 1, 1, none⟩) (by simp) (.int .i64 i)).setCell (p := ⟨w.heap.size + 1, 2, none⟩) (by simp) (.int .i64 tb)).setCell (p := ⟨w.heap.size + 1, 3, none⟩) (by simp) (.string s)).setCell (p := ⟨w.heap.size + 1, 4, none⟩) (by simp) (.int .u8 nl)).alloc (by simp; omega) (.cells #[.int .i64 0, .int .i64 i, .int .i64 tb, .string s, .int .u8 nl] 104))
  generalize World.alloc _ _ = wy at hln hb2 ⊢
  clear c0 c1 c2 c3 c4 r0 r1 r2 r3 r4 fr
  have k0 := hln.out.c0
  have k1 := hln.out.c1
  have k2 := hln.out.c2
  have k3 := hln.out.c3
  have k4 := hln.out.c4
  refine bodyPost_ret (by simp [results, Tryz.results85, go_sem, k0, k1, k2, k3, k4]; try rfl) rfl ?_
  exact ⟨rfl, hb2.out⟩
end Go.Proofs.YtmmijmhdbpldpaaGreatDoor
/- The starter of headings declines a line, where no sign of it is reached. -/


namespace Go.Proofs.YtmmijmhdbpldpaaGreatDoor
open Go.RowKit
set_option maxHeartbeats 1600000 in
theorem trimHeading_no2 (g i n : Nat) (tb nl : Int) (s : ByteArray) (w : World) (h : IsLn w g i tb s nl) (hs : s.size ≤ 140737488355328) (hi : i ≤ s.size) (ht : ∀ k, bt s k ≠ 9) (hq : ∀ k, Reach s i k → bt s k ≠ 35) :
    Calls Tryz.prog 125 #[.pointer (some ⟨g, 0, none⟩), .pointer (some ⟨n, 0, none⟩)] w fun e w' => e = .returned (.bool false) ∧ Below w.heap.size w w' := by
  have h0 := h.c0
  have h1 := h.c1
  have h2 := h.c2
  have h3 := h.c3
  have h4 := h.c4
  have HT := hid ht
  have HQ := hid hq
  clear ht hq h
  go_enter Tryz.func125, Tryz.ntmps125
  go_wp2_with fail
  refine (trimSp_any _ i 0 3 false tb nl s _ (Blk.new' (by simp)) hs hi HT.out (by omega) (by omega)).mono ?_
  rintro e w1 ⟨j, a1, a2, a3, a4, a5, a6, hm⟩
  rcases a6 with ⟨rfl, _, hln⟩ | ⟨_, hbad, _⟩
  · have HLN := hid hln
    have HM := hid hm
    have HJ := hid (show Reach s i j from ⟨a1, a2, a3, a4⟩)
    clear hln hm a4 a5
    go_wp2_with fail
    refine (trim_no _ j _ tb nl s _ HLN.out hs (.inr (HQ.out j HJ.out))).mono ?_
    rintro e w2 ⟨rfl, n2, rfl⟩
    go_wp2_with fail
    go_ret
    exact ⟨rfl, below_drewN (((Below.refl _ _).alloc (Nat.le_refl _) _).trans (Mod.toBelow HM.out (by simp) (fun k hk h => by omega))) n2⟩
  · omega
set_option maxHeartbeats 1600000 in
theorem newATX_no2 (g i : Nat) (tb nl : Int) (s : ByteArray) (w : World) (hs : s.size ≤ 140737488355328) (hi : i ≤ s.size) (ht : ∀ k, bt s k ≠ 9) (hq : ∀ k, Reach s i k → bt s k ≠ 35) :
    Calls Tryz.prog 86 #[.pointer (some ⟨g, 0, none⟩), lnV i tb s nl] w fun e w' => e = .returned (.tuple #[lnV i tb s nl, .bool false]) ∧ Below w.heap.size w w' := by
  have HT := hid ht
  have HQ := hid hq
  clear ht hq
  go_enter Tryz.func86, Tryz.ntmps86
  go_wp2_with fail
  refine (trimHeading_no2 _ i _ tb nl s _ (Blk.alloc (Blk.new' (by simp)) _) hs hi HT.out HQ.out).mono ?_
  rintro e w1 ⟨rfl, hb⟩
  have hm2 := Mod.below' (S := fun _ => False) hb
  have hbox : IsLn w1 w.heap.size i tb s nl := (Blk.alloc (Blk.alloc (Blk.alloc (Blk.new' rfl) _) _) _ : Blk _ w.heap.size 104 (lnC i tb s nl)).mod (S := fun _ => False) hm2 (fun h => h)
  have hres : Blk w1 (w.heap.size + 1) 104 #[.int .i64 0, .int .i64 0, .int .i64 0, .string ⟨#[]⟩, .int .u8 0] := (Blk.alloc (Blk.alloc (Blk.new' (by simp)) _) _ : Blk _ (w.heap.size + 1) 104 #[.int .i64 0, .int .i64 0, .int .i64 0, .string ⟨#[]⟩, .int .u8 0]).mod (S := fun _ => False) hm2 (fun h => h)
  have hbel : Below w.heap.size w w1 := (((((Below.refl _ _).alloc (Nat.le_refl _) _).alloc (by simp) _).alloc (by simp; omega) _).alloc (by simp; omega) _).trans (hb.mono (by simp; omega))
  clear hb hm2
  have c0 := hbox.c0
  have c1 := hbox.c1
  have c2 := hbox.c2
  have c3 := hbox.c3
  have c4 := hbox.c4
  have r0 := hres.at_ 0 rfl
  have r1 := hres.at_ 1 rfl
  have r2 := hres.at_ 2 rfl
  have r3 := hres.at_ 3 rfl
  have r4 := hres.at_ 4 rfl
  have fr := hres.free
  have HR := hid hres
  have HB := hid hbel
  clear hbox hres hbel
  unfold lnV
  go_wp2_with fail
  have hln : Hid (IsLn _ (w.heap.size + 1) i tb s nl) := hid (ln_store HR.out i tb nl s)
  have hb2 : Hid (Below w.heap.size w _) := hid (((((HB.out.setCell (p := ⟨w.heap.size + 1, 0, none⟩) (by simp) (.int .i64 0)).setCell (p := ⟨w.heap.size + 1, 1, none⟩) (by simp) (.int .i64 i)).setCell (p := ⟨w.heap.size + 1, 2, none⟩) (by simp) (.int .i64 tb)).setCell (p := ⟨w.heap.size + 1, 3, none⟩) (by simp) (.string s)).setCell (p := ⟨w.heap.size + 1, 4, none⟩) (by simp) (.int .u8 nl))
  generalize World.setCell _ ⟨w.heap.size + 1, 4, none⟩ _ = wy at hln hb2 ⊢
  clear c0 c1 c2 c3 c4 r0 r1 r2 r3 r4 fr
  have k0 := hln.out.c0
  have k1 := hln.out.c1
  have k2 := hln.out.c2
  have k3 := hln.out.c3
  have k4 := hln.out.c4
  refine bodyPost_ret (by simp [results, Tryz.results86, go_sem, k0, k1, k2, k3, k4]; try rfl) rfl ?_
  exact ⟨rfl, hb2.out⟩
end Go.Proofs.YtmmijmhdbpldpaaGreatDoor
/- A line while only the root is open: no starter takes it, and a paragraph begins. -/








namespace Go.Proofs.YtmmijmhdbpldpaaGreatDoor
open Go.RowKit
/-- A line that is a paragraph's first one, whatever the options. -/
structure ParLine (s : ByteArray) : Prop where
  size : s.size ≤ 100000
  pos : 0 < s.size
  tab : ∀ k, bt s k ≠ 9
  q : ∀ k, Reach s 0 k → bt s k ≠ 62 ∧ bt s k ≠ 35
  h32 : bt s 0 ≠ 32
  hr : bt s 0 ≠ 42 ∧ bt s 0 ≠ 45 ∧ bt s 0 ≠ 95
  lt_ : bt s 0 ≠ 60
  fence : bt s 0 ≠ 126
  tick : bt s 0 ≠ 96
  item : ∀ (g b : Nat) (nl : Int) (w : World), IsLn w b 0 0 s nl → Calls Tryz.prog 139 #[.pointer (some ⟨g, 0, none⟩), .pointer (some ⟨b, 0, none⟩)] w fun e w' => e = .returned (.bool false) ∧ Below w.heap.size w w'
theorem reach0 {s : ByteArray} (h : bt s 0 ≠ 32) {k : Nat} (hk : Reach s 0 k) : k = 0 := by
  obtain ⟨_, _, _, h4⟩ := hk
  rcases Nat.eq_zero_or_pos k with h0 | h0
  · exact h0
  · exact absurd (h4 0 (Nat.le_refl _) h0) h
theorem trimL_self {l : List UInt8} (h : ∀ c, l[0]? = some c → c ≠ 32 ∧ c ≠ 9) : trimL l = l := by
  cases l with
  | nil => rfl
  | cons a t =>
    obtain ⟨h1, h2⟩ := h a rfl
    unfold trimL
    rw [List.dropWhile_cons, if_neg]
    unfold isST
    simp [h1, h2]
theorem ParLine.trim {s : ByteArray} (h : ParLine s) : trimL s.data.toList = s.data.toList := by
  refine trimL_self (fun c hc => ?_)
  obtain ⟨c', h1, h2⟩ := bt_at s h.pos
  rw [h1] at hc
  simp only [Option.some.injEq] at hc
  subst hc
  exact ⟨fun e => h.h32 (by rw [h2, e]; rfl), fun e => h.tab 0 (by rw [h2, e]; rfl)⟩
theorem ParLine.nblank {s : ByteArray} (h : ParLine s) (nl : Int) : (Ln.mk 0 s nl).blank = false := by
  unfold Ln.blank
  show (trimL (s.data.toList.drop 0)).isEmpty = false
  rw [List.drop_zero, h.trim]
  have h1 := h.pos
  rw [Lib.size_eq] at h1
  cases hh : s.data.toList with
  | nil => rw [hh] at h1; simp at h1
  | cons a t => rfl
set_option maxRecDepth 20000 in
set_option maxHeartbeats 1600000 in
/-- newListItem declines where startListItem does. -/
theorem newListItem_via (B g : Nat) (r : PSr) (e0 : Ent) (p : Option Addr) (nl : Int) (s : ByteArray) (w : World) (hps : IsPS w g r) (hst : IsStack w B r.stack ([] ++ [e0])) (hd : r.lineDepth = 0) (hb1 : e0.bt = 98) (hb2 : e0.bv = .pointer p)
    (_ : s.size ≤ 140737488355328) (hq : ∀ b w, IsLn w b 0 0 s nl → Calls Tryz.prog 139 #[.pointer (some ⟨g, 0, none⟩), .pointer (some ⟨b, 0, none⟩)] w fun e w' => e = .returned (.bool false) ∧ Below w.heap.size w w') :
    Calls Tryz.prog 89 #[.pointer (some ⟨g, 0, none⟩), lnV 0 0 s nl] w fun e w' => e = .returned (.tuple #[lnV 0 0 s nl, .bool false]) ∧ Below w.heap.size w w' := by
  have HQ := hid hq
  have HPS := hid hps
  have HST := hid hst
  have ta := ta_root_list p
  have hl1 := hps.lt
  clear hq hps hst
  go_enter Tryz.func89, Tryz.ntmps89
  go_wp2_with fail
  refine (curB_root B g r e0 _ ((HPS.out.alloc _).alloc _) ((HST.out.alloc _).alloc _) hd).mono ?_
  rintro e w1 ⟨rfl, n1, rfl⟩
  rw [hb1, hb2]
  go_wp2_with fail
  refine (HQ.out _ _ (Blk.drewN (Blk.alloc (Blk.new' rfl) _) n1)).mono ?_
  rintro e w1 ⟨rfl, hb⟩
  have hm2 := Mod.below' (S := fun _ => False) hb
  have hbox : IsLn w1 w.heap.size 0 0 s nl := (Blk.drewN (Blk.alloc (Blk.new' rfl) _) n1 : Blk _ w.heap.size 104 (lnC 0 0 s nl)).mod (S := fun _ => False) hm2 (fun h => h)
  have hres : Blk w1 (w.heap.size + 1) 104 #[.int .i64 0, .int .i64 0, .int .i64 0, .string ⟨#[]⟩, .int .u8 0] := (Blk.drewN (Blk.new' (by simp)) n1 : Blk _ (w.heap.size + 1) 104 #[.int .i64 0, .int .i64 0, .int .i64 0, .string ⟨#[]⟩, .int .u8 0]).mod (S := fun _ => False) hm2 (fun h => h)
  have hbel : Below w.heap.size w w1 := (below_drewN (((Below.refl _ _).alloc (Nat.le_refl _) _).alloc (by simp) _) n1).trans (hb.mono (by simp; omega))
  clear hb hm2
  have c0 := hbox.c0
  have c1 := hbox.c1
  have c2 := hbox.c2
  have c3 := hbox.c3
  have c4 := hbox.c4
  have r0 := hres.at_ 0 rfl
  have r1 := hres.at_ 1 rfl
  have r2 := hres.at_ 2 rfl
  have r3 := hres.at_ 3 rfl
  have r4 := hres.at_ 4 rfl
  have fr := hres.free
  have HR := hid hres
  have HB := hid hbel
  clear hbox hres hbel
  unfold lnV
  go_wp2_with fail
  have hln : Hid (IsLn _ (w.heap.size + 1) 0 0 s nl) := hid (ln_store HR.out 0 0 nl s)
  have hb2 : Hid (Below w.heap.size w _) := hid (((((HB.out.setCell (p := ⟨w.heap.size + 1, 0, none⟩) (by simp) (.int .i64 0)).setCell (p := ⟨w.heap.size + 1, 1, none⟩) (by simp) (.int .i64 (0 : Nat))).setCell (p := ⟨w.heap.size + 1, 2, none⟩) (by simp) (.int .i64 0)).setCell (p := ⟨w.heap.size + 1, 3, none⟩) (by simp) (.string s)).setCell (p := ⟨w.heap.size + 1, 4, none⟩) (by simp) (.int .u8 nl))
  generalize World.setCell _ ⟨w.heap.size + 1, 4, none⟩ _ = wy at hln hb2 ⊢
  clear c0 c1 c2 c3 c4 r0 r1 r2 r3 r4 fr
  have k0 := hln.out.c0
  have k1 := hln.out.c1
  have k2 := hln.out.c2
  have k3 := hln.out.c3
  have k4 := hln.out.c4
  refine bodyPost_ret (by simp [results, Tryz.results89, go_sem, k0, k1, k2, k3, k4]; try rfl) rfl ?_
  exact ⟨rfl, hb2.out⟩
/-- While the starters are asked. -/
def ParE (B g : Nat) (r : PSr) (e0 : Ent) (tbl : Bool) (w w' : World) : Prop :=
  IsPS w' g { r with lineDepth := 0 } ∧ IsStack w' B r.stack ([] ++ [e0]) ∧ w'.cell? ⟨r.parser, 5, none⟩ = some (.bool tbl) ∧ Mod (fun k => g ≤ k) w w'
theorem ParE.lnKept {base B g : Nat} {r : PSr} {e0 : Ent} {tbl : Bool} {w w1 w2 : World} (h : ParE B g r e0 tbl w w1) (hk : LnKept base w1 w2) (hg : g ≤ base) (hp : r.parser < g) : ParE B g r e0 tbl w w2 := by
  obtain ⟨h1, h2, h4, h5⟩ := h
  exact ⟨h1.lnKept hk, h2.lnKept hk, by rw [hk.cell (p := ⟨r.parser, 5, none⟩) (by show r.parser < _; exact Nat.lt_trans hp h1.lt) (fun ⟨x, _⟩ => by have : base ≤ r.parser := x; omega)]; exact h4, h5.lnKept hk hg⟩
def ParQ1 (B g : Nat) (r : PSr) (e0 : Ent) (txt : List UInt8) (w w' : World) : Prop :=
  ∃ st pb v, IsPS w' g { r with lineDepth := 0, stack := st } ∧ IsStack w' B st ([] ++ [e0] ++ [parE pb r.lineno r.lineno]) ∧ IsPara w' B pb v [lineV txt] ∧ v.n = 1 ∧ Mod (fun k => g ≤ k) w w'
set_option maxRecDepth 20000 in
theorem addLine_par0 (B g : Nat) (r : PSr) (a : Option Addr) (i0 : Sl) (tbl : Bool) (nl : Int) (s : ByteArray) (w : World) (hgB : g < B) (hB : B ≤ w.heap.size) (hps : IsPS w g r) (hst : IsStack w B r.stack ([] ++ [⟨98, .pointer a, i0, 0, 0⟩]))
    (hs : ParLine s) (hpg : r.parser < g) (htb : w.cell? ⟨r.parser, 5, none⟩ = some (.bool tbl)) :
    Calls Tryz.prog 54 #[.pointer (some ⟨g, 0, none⟩), lnV 0 0 s nl] w fun e w' => e = .returned (.tuple #[]) ∧ ParQ1 B g r ⟨98, .pointer a, i0, 0, 0⟩ s.data.toList w w' := by
  obtain ⟨sb, cap, cs0, hsh, hsbb, _, _, hBs⟩ := hst.shape (by simp)
  have hsh2 : r.stack = ⟨some ⟨sb, 0, none⟩, 1, cap⟩ := by rw [hsh]; rfl
  have hgs : g ≤ w.heap.size := Nat.le_of_lt hps.lt
  have hsz := hs.size
  generalize he0 : (⟨98, .pointer a, i0, 0, 0⟩ : Ent) = e0 at hst ⊢
  have hb1 : e0.bt = 98 := by rw [← he0]
  have hb2 : e0.bv = .pointer a := by rw [← he0]
  refine addLine_gen g sb cap 1 r.lineno
    (fun k l w' => k = 0 ∧ l = ⟨0, s, nl⟩ ∧ ParE B g r e0 tbl w w')
    (fun d l w' => d = 0 ∧ l = ⟨0, s, nl⟩ ∧ ParE B g r e0 tbl w w')
    (fun _ _ _ _ _ => False)
    (ParQ1 B g r e0 s.data.toList w) ⟨0, s, nl⟩ w r hps ⟨Nat.zero_le _, by show s.size ≤ 1000000; omega⟩ rfl ?_ ?_
  · have keepE : ∀ d l w1 w2, (d = 0 ∧ l = Ln.mk 0 s nl ∧ ParE B g r e0 tbl w w1) → LnKept w.heap.size w1 w2 → (d = 0 ∧ l = Ln.mk 0 s nl ∧ ParE B g r e0 tbl w w2) := fun d l w1 w2 ⟨h1, h2, h3⟩ hk => ⟨h1, h2, h3.lnKept hk hgs hpg⟩
    have atE : ∀ d l w', (d = 0 ∧ l = Ln.mk 0 s nl ∧ ParE B g r e0 tbl w w') → AtLine g sb cap 1 r.lineno d w' ∧ d < 1 := by
      rintro d l w' ⟨rfl, rfl, h1, h2, _⟩
      exact ⟨atLine_of h1 rfl rfl hsh2 h2 rfl (by omega) (by omega), by omega⟩
    refine { pos := by omega, atJ := atE, atP := ?_, atE := atE, keepJ := keepE, keepP := ?_, keepE := keepE, keepQ := ?_, ext := ?_, yes := ?_, no := ?_, last := ?_, blank := ?_, start := ?_ }
    · intro k l l' ok w' h; exact h.elim
    · intro k l l' ok w1 w2 h _; exact h
    · rintro w1 w2 ⟨st, pb, v, h1, h2, h3, h4, h5⟩ hk
      exact ⟨st, pb, v, h1.lnKept hk, h2.lnKept hk, h3.lnKept hk, h4, h5.lnKept hk hgs⟩
    · rintro k l w' ⟨rfl, _⟩ hkn
      omega
    · intro k l l' w' h; exact h.elim
    · intro k l l' w' h; exact h.elim
    · rintro l w' ⟨_, h2, h3⟩
      exact ⟨rfl, h2, h3⟩
    · rintro d l w' ⟨rfl, rfl, _⟩ hbl
      rw [hs.nblank] at hbl; cases hbl
    · intro d l hbl hok
      have fin : ∀ {w1 w2 : World} {e : Ending}, (e = .returned (.tuple #[lnV 0 0 s nl, .bool false]) ∧ Below w1.heap.size w1 w2) → e = .returned (.tuple #[(Ln.mk 0 s nl).v, .bool false]) ∧ LnKept w.heap.size w1 w2 ∧ ∀ lb cs, w.heap.size ≤ lb → Blk w1 lb 104 cs → Blk w2 lb 104 cs := fun ⟨h1, h2⟩ => ⟨h1, LnKept.below h2, fun lb cs _ hb => Blk.mod (S := fun _ => False) hb (Mod.below' h2) (fun x => x)⟩
      refine ⟨8, Nat.le_refl _, ?_, ?_, ?_⟩
      · rintro i f w' hi hf ⟨rfl, rfl, hp, hst', htb', hm⟩
        have h8 : i = 0 ∨ i = 1 ∨ i = 2 ∨ i = 3 ∨ i = 4 ∨ i = 5 ∨ i = 6 ∨ i = 7 := by omega
        rcases h8 with rfl | rfl | rfl | rfl | rfl | rfl | rfl | rfl
        · cases hf
          exact (newQuote_no2 g 0 0 nl s w' (by omega) (Nat.zero_le _) hs.tab (fun k hk => (hs.q k hk).1)).mono (fun _ _ => fin)
        · cases hf
          exact (newATX_no2 g 0 0 nl s w' (by omega) (Nat.zero_le _) hs.tab (fun k hk => (hs.q k hk).2)).mono (fun _ _ => fin)
        · cases hf
          exact (newSetext_no B g 0 _ [] e0 a 0 nl s w' hp hst' (by simp) (by rw [hsh2]; rfl) hb1 hb2).mono (fun _ _ => fin)
        · cases hf
          exact (newHR_no g 0 0 nl s w' (by omega) (Nat.zero_le _) hs.tab (fun k hk => by rw [reach0 hs.h32 hk]; exact hs.hr)).mono (fun _ _ => fin)
        · cases hf
          exact (newListItem_via B g _ e0 a nl s w' hp hst' rfl hb1 hb2 (by omega) (fun b w2 h => hs.item g b nl w2 h)).mono (fun _ _ => fin)
        · cases hf
          exact (newHTML_no g 0 0 nl s w' (by omega) (Nat.zero_le _) hs.tab (fun k hk => by rw [reach0 hs.h32 hk]; exact hs.lt_)).mono (fun _ _ => fin)
        · cases hf
          exact (newFence_no g 0 0 nl s w' (by omega) (Nat.zero_le _) hs.tab (fun k hk => by rw [reach0 hs.h32 hk]; exact ⟨hs.tick, hs.fence⟩)).mono (fun _ _ => fin)
        · cases hf
          exact (newPre_no B g _ e0 a nl s w' hp hst' hb1 hb2 (by omega) hs.pos hs.tab hs.h32).mono (fun _ _ => fin)
      · rintro f w' hf
        cases hf
      · rintro _ w' ⟨rfl, rfl, hp, hst', htb', hm⟩
        refine (newPara_yes B g _ e0 a 0 nl tbl s w' (Nat.le_trans hB hm.size) hp hst' rfl hb1 hb2 (by omega) (Nat.zero_le _) htb').mono ?_
        rintro e w2 ⟨rfl, st, pb, v, q1, q2, q3, q4, _, q6⟩
        rw [List.drop_zero, hs.trim] at q3
        refine ⟨⟨_, rfl⟩, st, pb, v, q1, q2, q3, q4, hm.trans q6 (fun k hk e => ?_)⟩
        rcases e with e | e
        · omega
        · have := ownBase hst'.2 e; omega
  · refine ⟨rfl, rfl, hps.set5 0, hst.far (p := ⟨g, 5, none⟩) (own_ne hst.2 hps (by decide)) _, ?_, (Mod.refl _ _).setCell (p := ⟨g, 5, none⟩) (.inl (Nat.le_refl _)) _⟩
    rw [((Mod.refl (fun k => k = g) w).setCell (p := ⟨g, 5, none⟩) (.inl rfl) (.int .i64 0)).cell (p := ⟨r.parser, 5, none⟩) (by show r.parser < _; have := hps.lt; omega) (by show ¬ r.parser = g; omega)]
    exact htb
end Go.Proofs.YtmmijmhdbpldpaaGreatDoor
/- A line becomes a paragraph's first one, or is blank behind a paragraph: what has been closed stays. -/


namespace Go.Proofs.YtmmijmhdbpldpaaGreatDoor
open Go.RowKit
/-- The machine's own blocks: the parser's state, the open blocks, lines. -/
def Own3 (w : World) (k : Nat) : Prop := ∃ ty cs, Blk w k ty cs ∧ (ty = 95 ∨ ty = 121 ∨ ty = 104)
/-- All other objects stay. -/
def KeepD (w w' : World) : Prop := w.heap.size ≤ w'.heap.size ∧ ∀ k, k < w.heap.size → ¬ Own3 w k → w'.heap[k]? = w.heap[k]?
theorem KeepD.refl (w : World) : KeepD w w := ⟨Nat.le_refl _, fun _ _ _ => rfl⟩
theorem KeepD.trans {a b c : World} (h : KeepD a b) (h' : KeepD b c) : KeepD a c := by
  refine ⟨Nat.le_trans h.1 h'.1, fun k hk hn => ?_⟩
  have e1 := h.2 k hk hn
  refine (h'.2 k (Nat.lt_of_lt_of_le hk h.1) (fun ⟨ty, cs, hb, ht⟩ => hn ⟨ty, cs, ?_, ht⟩)).trans e1
  unfold Blk at hb ⊢
  rw [← e1]; exact hb
theorem KeepD.of {w w' : World} {S : Nat → Prop} (hm : Mod S w w') (hS : ∀ k, k < w.heap.size → S k → Own3 w k) : KeepD w w' :=
  ⟨hm.size, fun k hk hn => hm.block k hk (fun h => hn (hS k hk h))⟩
theorem KeepD.lnKept {base : Nat} {w w' : World} (h : LnKept base w w') : KeepD w w' := KeepD.of h (fun _ _ ⟨_, cs, hb⟩ => ⟨_, cs, hb, .inr (.inr rfl)⟩)
theorem KeepD.blk {w w' : World} {k : Nat} {ty : TypeId} {cs : Array Value} (h : KeepD w w') (hb : Blk w k ty cs) (h1 : ty ≠ 95) (h2 : ty ≠ 121) (h3 : ty ≠ 104) : Blk w' k ty cs := by
  have e := h.2 k hb.lt (fun ⟨ty', cs', hb', ht⟩ => by
    unfold Blk at hb hb'
    rw [hb] at hb'
    simp only [Option.some.injEq, Obj.cells.injEq] at hb'
    obtain ⟨_, rfl, _⟩ := hb'
    rcases ht with h | h | h
    · exact h1 h
    · exact h2 h
    · exact h3 h)
  unfold Blk at hb ⊢
  rw [e]; exact hb
theorem KeepD.own {w w' : World} {base : Nat} {e : TypeId} {size n : Nat} {v : Value} {xs : List Value} (hk : KeepD w w') (h : w.ownsRow base e size v n xs) (h1 : e ≠ 95) (h2 : e ≠ 121) (h3 : e ≠ 104) : w'.ownsRow base e size v n xs := by
  refine ⟨h.1, ?_⟩
  rcases h.2 with h0 | ⟨g', cap, cur, rfl, hb, hh, h4⟩
  · exact .inl h0
  · exact .inr ⟨g', cap, cur, rfl, hb, hk.blk hh h1 h2 h3, h4⟩
/-- Any object of another form (a map). -/
theorem KeepD.obj {w w' : World} {k : Nat} {o : Obj} (h : KeepD w w') (hb : w.heap[k]? = some o) (ho : ∀ cs ty fz, o ≠ .cells cs ty fz) : w'.heap[k]? = some o := by
  rw [h.2 k (Array.getElem?_eq_some_iff.1 hb).1 (fun ⟨ty, cs, hb', _⟩ => by
    unfold Blk at hb'
    rw [hb] at hb'
    exact ho _ _ _ (Option.some.inj hb'))]
  exact hb
theorem own3_ps {w : World} {g : Nat} {r : PSr} (h : IsPS w g r) : Own3 w g := ⟨_, _, h, .inl rfl⟩
theorem own3_stack {w : World} {B : Nat} {s : Sl} {es : List Ent} (h : IsStack w B s es) {k : Nat} (hk : some k = s.v.ownBlock) : Own3 w k := by
  rcases h.2.2 with ⟨h1, _⟩ | ⟨gb, cap, cur, h1, _, hh, _⟩
  · rw [h1] at hk; cases hk
  · rw [h1] at hk
    obtain rfl : k = gb := Option.some.inj hk
    exact ⟨_, _, hh, .inr (.inl rfl)⟩
/-- As ParQ1, and what has been closed stays. -/
def ParQ2 (B g : Nat) (r : PSr) (e0 : Ent) (txt : List UInt8) (w w' : World) : Prop := ParQ1 B g r e0 txt w w' ∧ KeepD w w'
set_option maxRecDepth 20000 in
theorem addLine_par1 (B g : Nat) (r : PSr) (a : Option Addr) (i0 : Sl) (tbl : Bool) (nl : Int) (s : ByteArray) (w : World) (hgB : g < B) (hB : B ≤ w.heap.size) (hps : IsPS w g r) (hst : IsStack w B r.stack ([] ++ [⟨98, .pointer a, i0, 0, 0⟩]))
    (hs : ParLine s) (hpg : r.parser < g) (htb : w.cell? ⟨r.parser, 5, none⟩ = some (.bool tbl)) :
    Calls Tryz.prog 54 #[.pointer (some ⟨g, 0, none⟩), lnV 0 0 s nl] w fun e w' => e = .returned (.tuple #[]) ∧ ParQ2 B g r ⟨98, .pointer a, i0, 0, 0⟩ s.data.toList w w' := by
  obtain ⟨sb, cap, cs0, hsh, hsbb, _, _, hBs⟩ := hst.shape (by simp)
  have hsh2 : r.stack = ⟨some ⟨sb, 0, none⟩, 1, cap⟩ := by rw [hsh]; rfl
  have hgs : g ≤ w.heap.size := Nat.le_of_lt hps.lt
  have hsz := hs.size
  generalize he0 : (⟨98, .pointer a, i0, 0, 0⟩ : Ent) = e0 at hst ⊢
  have hb1 : e0.bt = 98 := by rw [← he0]
  have hb2 : e0.bv = .pointer a := by rw [← he0]
  refine addLine_gen g sb cap 1 r.lineno
    (fun k l w' => k = 0 ∧ l = ⟨0, s, nl⟩ ∧ ParE B g r e0 tbl w w' ∧ KeepD w w')
    (fun d l w' => d = 0 ∧ l = ⟨0, s, nl⟩ ∧ ParE B g r e0 tbl w w' ∧ KeepD w w')
    (fun _ _ _ _ _ => False)
    (ParQ2 B g r e0 s.data.toList w) ⟨0, s, nl⟩ w r hps ⟨Nat.zero_le _, by show s.size ≤ 1000000; omega⟩ rfl ?_ ?_
  · have keepE : ∀ d l w1 w2, (d = 0 ∧ l = Ln.mk 0 s nl ∧ ParE B g r e0 tbl w w1 ∧ KeepD w w1) → LnKept w.heap.size w1 w2 → (d = 0 ∧ l = Ln.mk 0 s nl ∧ ParE B g r e0 tbl w w2 ∧ KeepD w w2) := fun d l w1 w2 ⟨h1, h2, h3, h4⟩ hk => ⟨h1, h2, h3.lnKept hk hgs hpg, h4.trans (KeepD.lnKept hk)⟩
    have atE : ∀ d l w', (d = 0 ∧ l = Ln.mk 0 s nl ∧ ParE B g r e0 tbl w w' ∧ KeepD w w') → AtLine g sb cap 1 r.lineno d w' ∧ d < 1 := by
      rintro d l w' ⟨rfl, rfl, ⟨h1, h2, _⟩, _⟩
      exact ⟨atLine_of h1 rfl rfl hsh2 h2 rfl (by omega) (by omega), by omega⟩
    refine { pos := by omega, atJ := atE, atP := ?_, atE := atE, keepJ := keepE, keepP := ?_, keepE := keepE, keepQ := ?_, ext := ?_, yes := ?_, no := ?_, last := ?_, blank := ?_, start := ?_ }
    · intro k l l' ok w' h; exact h.elim
    · intro k l l' ok w1 w2 h _; exact h
    · rintro w1 w2 ⟨⟨st, pb, v, h1, h2, h3, h4, h5⟩, h6⟩ hk
      exact ⟨⟨st, pb, v, h1.lnKept hk, h2.lnKept hk, h3.lnKept hk, h4, h5.lnKept hk hgs⟩, h6.trans (KeepD.lnKept hk)⟩
    · rintro k l w' ⟨rfl, _⟩ hkn
      omega
    · intro k l l' w' h; exact h.elim
    · intro k l l' w' h; exact h.elim
    · rintro l w' ⟨_, h2, h3⟩
      exact ⟨rfl, h2, h3⟩
    · rintro d l w' ⟨rfl, rfl, _⟩ hbl
      rw [hs.nblank] at hbl; cases hbl
    · intro d l hbl hok
      have fin : ∀ {w1 w2 : World} {e : Ending}, (e = .returned (.tuple #[lnV 0 0 s nl, .bool false]) ∧ Below w1.heap.size w1 w2) → e = .returned (.tuple #[(Ln.mk 0 s nl).v, .bool false]) ∧ LnKept w.heap.size w1 w2 ∧ ∀ lb cs, w.heap.size ≤ lb → Blk w1 lb 104 cs → Blk w2 lb 104 cs := fun ⟨h1, h2⟩ => ⟨h1, LnKept.below h2, fun lb cs _ hb => Blk.mod (S := fun _ => False) hb (Mod.below' h2) (fun x => x)⟩
      refine ⟨8, Nat.le_refl _, ?_, ?_, ?_⟩
      · rintro i f w' hi hf ⟨rfl, rfl, ⟨hp, hst', htb', hm⟩, _⟩
        have h8 : i = 0 ∨ i = 1 ∨ i = 2 ∨ i = 3 ∨ i = 4 ∨ i = 5 ∨ i = 6 ∨ i = 7 := by omega
        rcases h8 with rfl | rfl | rfl | rfl | rfl | rfl | rfl | rfl
        · cases hf
          exact (newQuote_no2 g 0 0 nl s w' (by omega) (Nat.zero_le _) hs.tab (fun k hk => (hs.q k hk).1)).mono (fun _ _ => fin)
        · cases hf
          exact (newATX_no2 g 0 0 nl s w' (by omega) (Nat.zero_le _) hs.tab (fun k hk => (hs.q k hk).2)).mono (fun _ _ => fin)
        · cases hf
          exact (newSetext_no B g 0 _ [] e0 a 0 nl s w' hp hst' (by simp) (by rw [hsh2]; rfl) hb1 hb2).mono (fun _ _ => fin)
        · cases hf
          exact (newHR_no g 0 0 nl s w' (by omega) (Nat.zero_le _) hs.tab (fun k hk => by rw [reach0 hs.h32 hk]; exact hs.hr)).mono (fun _ _ => fin)
        · cases hf
          exact (newListItem_via B g _ e0 a nl s w' hp hst' rfl hb1 hb2 (by omega) (fun b w2 h => hs.item g b nl w2 h)).mono (fun _ _ => fin)
        · cases hf
          exact (newHTML_no g 0 0 nl s w' (by omega) (Nat.zero_le _) hs.tab (fun k hk => by rw [reach0 hs.h32 hk]; exact hs.lt_)).mono (fun _ _ => fin)
        · cases hf
          exact (newFence_no g 0 0 nl s w' (by omega) (Nat.zero_le _) hs.tab (fun k hk => by rw [reach0 hs.h32 hk]; exact ⟨hs.tick, hs.fence⟩)).mono (fun _ _ => fin)
        · cases hf
          exact (newPre_no B g _ e0 a nl s w' hp hst' hb1 hb2 (by omega) hs.pos hs.tab hs.h32).mono (fun _ _ => fin)
      · rintro f w' hf
        cases hf
      · rintro _ w' ⟨rfl, rfl, ⟨hp, hst', htb', hm⟩, hkd⟩
        refine (newPara_yes B g _ e0 a 0 nl tbl s w' (Nat.le_trans hB hm.size) hp hst' rfl hb1 hb2 (by omega) (Nat.zero_le _) htb').mono ?_
        rintro e w2 ⟨rfl, st, pb, v, q1, q2, q3, q4, _, q6⟩
        rw [List.drop_zero, hs.trim] at q3
        refine ⟨⟨_, rfl⟩, ⟨st, pb, v, q1, q2, q3, q4, hm.trans q6 (fun k hk e => ?_)⟩, hkd.trans (KeepD.of q6 (fun k hk e => ?_))⟩
        · rcases e with e | e
          · omega
          · have := ownBase hst'.2 e; omega
        · rcases e with e | e
          · subst e; exact own3_ps hp
          · exact own3_stack hst' e
  · refine ⟨rfl, rfl, ⟨hps.set5 0, hst.far (p := ⟨g, 5, none⟩) (own_ne hst.2 hps (by decide)) _, ?_, (Mod.refl _ _).setCell (p := ⟨g, 5, none⟩) (.inl (Nat.le_refl _)) _⟩, KeepD.of ((Mod.refl (fun k => k = g) w).setCell (p := ⟨g, 5, none⟩) (.inl rfl) _) (fun k _ e => by subst e; exact own3_ps hps)⟩
    rw [((Mod.refl (fun k => k = g) w).setCell (p := ⟨g, 5, none⟩) (.inl rfl) (.int .i64 0)).cell (p := ⟨r.parser, 5, none⟩) (by show r.parser < _; have := hps.lt; omega) (by show ¬ r.parser = g; omega)]
    exact htb
end Go.Proofs.YtmmijmhdbpldpaaGreatDoor
/- A blank line behind a paragraph: it is closed. -/


namespace Go.Proofs.YtmmijmhdbpldpaaGreatDoor
open Go.RowKit
theorem para_extend (p : Value) (g : Nat) (l : Ln) (w : World) :
    Calls Tryz.prog 281 #[p, .pointer (some ⟨g, 0, none⟩), l.v] w fun e w' => e = .returned (.tuple #[l.v, .bool false]) ∧ Below w.heap.size w w' := by
  unfold Ln.v lnV
  go_enter Tryz.func281, Tryz.ntmps281
  go_wp2_with fail
  have hbx : Blk ((w.alloc (.cells l.C 104)).alloc (.cells l.C 104)) (w.heap.size + 1) 104 l.C := Blk.new' (by simp)
  have k0 := hbx.at_ 0 rfl
  have k1 := hbx.at_ 1 rfl
  have k2 := hbx.at_ 2 rfl
  have k3 := hbx.at_ 3 rfl
  have k4 := hbx.at_ 4 rfl
  unfold Ln.C at k0 k1 k2 k3 k4
  refine bodyPost_ret (by simp [results, Tryz.results281, go_sem, k0, k1, k2, k3, k4]; try rfl) rfl ?_
  exact ⟨rfl, ((Below.refl _ _).alloc (Nat.le_refl _) _).alloc (by simp) _⟩
def BlE (B g : Nat) (r : PSr) (e0 : Ent) (qb : Nat) (sl el : Int) (w w' : World) : Prop :=
  IsPS w' g { r with lineDepth := 0 } ∧ IsStack w' B r.stack ([] ++ [e0] ++ [parE qb sl el]) ∧ KeepD w w' ∧ Mod (fun k => g ≤ k) w w'
theorem BlE.lnKept {base B g qb : Nat} {r : PSr} {e0 : Ent} {sl el : Int} {w w1 w2 : World} (h : BlE B g r e0 qb sl el w w1) (hk : LnKept base w1 w2) (hg : g ≤ base) : BlE B g r e0 qb sl el w w2 :=
  ⟨h.1.lnKept hk, h.2.1.lnKept hk, h.2.2.1.trans (KeepD.lnKept hk), h.2.2.2.lnKept hk hg⟩
set_option maxRecDepth 20000 in
theorem addLine_blankP (B g qb : Nat) (r : PSr) (e0 : Ent) (sl el nl : Int) (w : World) (F : World → Prop) (hgB : g < B) (hps : IsPS w g r) (hst : IsStack w B r.stack ([] ++ [e0] ++ [parE qb sl el]))
    (keepF : ∀ w1 w2, F w1 → LnKept w.heap.size w1 w2 → F w2) (htr : ∀ w1, BlE B g r e0 qb sl el w w1 → Calls Tryz.prog 55 #[.pointer (some ⟨g, 0, none⟩), .int .i64 1] w1 fun e w' => e = .returned (.tuple #[]) ∧ F w') :
    Calls Tryz.prog 54 #[.pointer (some ⟨g, 0, none⟩), lnV 0 0 ⟨#[]⟩ nl] w fun e w' => e = .returned (.tuple #[]) ∧ F w' := by
  obtain ⟨sb, cap, cs0, hsh, hsbb, _, _, hBs⟩ := hst.shape (by simp)
  have hsh2 : r.stack = ⟨some ⟨sb, 0, none⟩, 2, cap⟩ := by rw [hsh]; rfl
  have hgs : g ≤ w.heap.size := Nat.le_of_lt hps.lt
  have hbl0 : (Ln.mk 0 ⟨#[]⟩ nl).blank = true := rfl
  refine addLine_gen g sb cap 2 r.lineno
    (fun k l w' => k = 0 ∧ l = ⟨0, ⟨#[]⟩, nl⟩ ∧ BlE B g r e0 qb sl el w w')
    (fun d l w' => d = 0 ∧ l = ⟨0, ⟨#[]⟩, nl⟩ ∧ BlE B g r e0 qb sl el w w')
    (fun k l l' ok w' => k = 0 ∧ l = ⟨0, ⟨#[]⟩, nl⟩ ∧ l' = ⟨0, ⟨#[]⟩, nl⟩ ∧ ok = false ∧ BlE B g r e0 qb sl el w w')
    F ⟨0, ⟨#[]⟩, nl⟩ w r hps ⟨Nat.le_refl _, by show 0 ≤ 1000000; omega⟩ rfl ?_ ?_
  · refine { pos := by omega, atJ := ?_, atP := ?_, atE := ?_, keepJ := ?_, keepP := ?_, keepE := ?_, keepQ := keepF, ext := ?_, yes := ?_, no := ?_, last := ?_, blank := ?_, start := ?_ }
    · rintro k l w' ⟨rfl, rfl, h1, h2, _⟩
      exact ⟨atLine_of h1 rfl rfl hsh2 h2 rfl (by omega) (by omega), by omega⟩
    · rintro k l l' ok w' ⟨rfl, rfl, rfl, rfl, h1, h2, _⟩
      exact atLine_of h1 rfl rfl hsh2 h2 rfl (by omega) (by omega)
    · rintro d l w' ⟨rfl, rfl, h1, h2, _⟩
      exact ⟨atLine_of h1 rfl rfl hsh2 h2 rfl (by omega) (by omega), by omega⟩
    · rintro k l w1 w2 ⟨h1, h2, h3⟩ hk
      exact ⟨h1, h2, h3.lnKept hk hgs⟩
    · rintro k l l' ok w1 w2 ⟨h1, h2, h3, h4, h5⟩ hk
      exact ⟨h1, h2, h3, h4, h5.lnKept hk hgs⟩
    · rintro d l w1 w2 ⟨h1, h2, h3⟩ hk
      exact ⟨h1, h2, h3.lnKept hk hgs⟩
    · rintro k l w' ⟨rfl, rfl, h1, h2, h3⟩ hkn hok
      obtain ⟨sb', cap', hv', _, _, _, _, _, c0, _⟩ := h2.top
      rw [hsh2] at hv'
      simp only [Sl.mk.injEq, Option.some.injEq, Addr.mk.injEq] at hv'
      obtain ⟨⟨rfl, _⟩, _⟩ := hv'
      refine ⟨_, _, _, _, c0, para_ext_via qb, Go.Proofs.enters_of Tryz.func281 (by kernel_rfl) rfl, ⟨0, ⟨#[]⟩, nl⟩, false, hok, ?_⟩
      refine (para_extend (.pointer (some ⟨qb, 0, none⟩)) g ⟨0, ⟨#[]⟩, nl⟩ w').mono ?_
      rintro e w3 ⟨rfl, hb⟩
      have hk0 : LnKept w.heap.size w' w3 := LnKept.below hb
      exact ⟨rfl, ⟨rfl, rfl, rfl, rfl, BlE.lnKept ⟨h1, h2, h3⟩ hk0 hgs⟩, hb.size, fun lb cs _ h => Blk.mod h (Mod.below' (S := fun _ => False) hb) (fun x => x)⟩
    · rintro k l l' w' ⟨_, _, _, h, _⟩
      cases h
    · rintro k l l' w' ⟨rfl, rfl, rfl, _, h⟩ _
      refine ⟨rfl, rfl, ?_⟩
      have hu : updB (Ln.mk 0 ⟨#[]⟩ nl) (Ln.mk 0 ⟨#[]⟩ nl) false = false := by unfold updB; rw [hbl0]; rfl
      rw [hu]
      exact h
    · rintro l w' ⟨h, _⟩
      cases h
    · rintro d l w' ⟨rfl, rfl, h⟩ _
      exact htr w' h
    · intro d l hbl hok
      refine ⟨8, Nat.le_refl _, ?_, ?_, ?_⟩
      · rintro i f w' _ _ ⟨_, rfl, _⟩
        rw [hbl0] at hbl; cases hbl
      · rintro f w' hf
        cases hf
      · rintro _ w' ⟨_, rfl, _⟩
        rw [hbl0] at hbl; cases hbl
  · exact ⟨rfl, rfl, hps.set5 0, hst.far (p := ⟨g, 5, none⟩) (own_ne hst.2 hps (by decide)) _, KeepD.of ((Mod.refl (fun k => k = g) w).setCell (p := ⟨g, 5, none⟩) (.inl rfl) _) (fun k _ e => by subst e; exact own3_ps hps), (Mod.refl _ _).setCell (p := ⟨g, 5, none⟩) (.inl (Nat.le_refl _)) _⟩
end Go.Proofs.YtmmijmhdbpldpaaGreatDoor
