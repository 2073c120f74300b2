/- Texts of this proof, joined: A paragraph is open behind the root: what the stack's top says, and starters that decline a line, A paragraph is open: a line that no starter takes is its next line, A line while a paragraph is open behind the root: the paragraph's next line, or what a starter makes of it. -/
import Derived.Test.YtmmijmhdbpldpaaGreatDoorCInt06
import Derived.LaidEql
import Derived.Test.YtmmijmhdbpldpaaGreatDoorCInt01
import Derived.Test.YtmmijmhdbpldpaaGreatDoorCInt03
import Derived.Test.YtmmijmhdbpldpaaGreatDoorCInt02
import Derived.Laws.IdiomStrings
import Derived.Deep.AppendLies
import Derived.Maps.AppendAt
import Derived.Laws.MakeOwn
import Derived.Test.YtmmijmhdbpldpaaGreatDoorCInt04
import Derived.Test.YtmmijmhdbpldpaaGreatDoorCInt05
import Derived.Deep.RegionLaw
/- A paragraph is open behind the root: what the stack's top says, and starters that decline a line. -/


namespace Go.Proofs.YtmmijmhdbpldpaaGreatDoor
open Go.RowKit
theorem ta_para_para (p : Option Addr) (w : World) : (Instr.typeAssert (.iface 162 (.pointer p)) 118 162 true).run Tryz.prog w = .ok (.tuple #[.pointer p, .bool true]) w := by kernel_rfl
theorem infoPB : (Tryz.prog.info? 162).map (·.comparable) = some true := by kernel_rfl
theorem infoPB2 : (Tryz.prog.info? 166).map (·.size) = some 2 := by kernel_rfl
theorem para_eq_para (b : Nat) (w : World) : Sem.run Tryz.prog (binOp BinOp.eql 118 (.iface 162 (.pointer (some ⟨b, 0, none⟩))) (.iface 162 (.pointer (some ⟨b, 0, none⟩)))) w = .ok (.bool true) w := by
  obtain ⟨i, hi, hc⟩ := Option.map_eq_some_iff.1 infoPB
  obtain ⟨j, hj, _⟩ := Option.map_eq_some_iff.1 infoPB2
  exact run_eql_iface_ptr_same w ⟨b, 0, none⟩ Tryz.underlying118 Tryz.underlying162 hi hc hj
set_option maxHeartbeats 1600000 in
theorem para_par (B g pb : Nat) (sl el : Int) (r : PSr) (es : List Ent) (w : World) (hps : IsPS w g r) (hst : IsStack w B r.stack (es ++ [parE pb sl el])) (hn : es.length ≤ 1000000) :
    Calls Tryz.prog 93 #[.pointer (some ⟨g, 0, none⟩)] w fun e w' => e = .returned (.pointer (some ⟨pb, 0, none⟩)) ∧ ∃ n, w' = w.drewN n := by
  obtain ⟨sb, cap, hv, hcap, hfr, hob, hsb, hBs, k0, k1, k2, k3⟩ := hst.top
  have c4 := hps.c4
  rw [hv] at c4
  have hb : (parE pb sl el).bt = 162 := rfl
  have hb2 : (parE pb sl el).bv = .pointer (some ⟨pb, 0, none⟩) := rfl
  rw [hb, hb2] at k0
  have ta := ta_para_para (some ⟨pb, 0, none⟩)
  have HV := hid hv
  have HOB := hid hob
  clear hv hob hb hb2
  go_enter Tryz.func93, Tryz.ntmps93
  go_wp2
  go_quiet (fail)
  go_wp2
  go_ret
  exact ⟨rfl, _, rfl⟩
set_option maxHeartbeats 1600000 in
theorem nextB_par (B g pb : Nat) (sl el : Int) (r : PSr) (e0 : Ent) (w : World) (hps : IsPS w g r) (hst : IsStack w B r.stack ([] ++ [e0] ++ [parE pb sl el])) (hd : r.lineDepth = 0) :
    Calls Tryz.prog 133 #[.pointer (some ⟨g, 0, none⟩)] w fun e w' => e = .returned (.iface 162 (.pointer (some ⟨pb, 0, none⟩))) ∧ ∃ n, w' = w.drewN n := by
  obtain ⟨sb, cap, hv, hcap, hfr, hob, hsb, hBs, k0, k1, k2, k3⟩ := hst.top
  have c4 := hps.c4
  have c5 := hps.c5
  rw [hv] at c4
  rw [hd] at c5
  simp only [List.nil_append, List.length_cons, List.length_nil] at k0 c4 hcap
  have hb : (parE pb sl el).bt = 162 := rfl
  have hb2 : (parE pb sl el).bv = .pointer (some ⟨pb, 0, none⟩) := rfl
  rw [hb, hb2] at k0
  have HV := hid hv
  have HOB := hid hob
  clear hv hob hd hb hb2
  go_enter Tryz.func133, Tryz.ntmps133
  go_wp2
  go_quiet (fail)
  go_wp2
  go_quiet (fail)
  go_wp2
  go_ret
  exact ⟨rfl, _, World.drewN_drewN _ _ _⟩
/-- The stack with two entries: the first one's cells. -/
theorem IsStack.low {w : World} {B : Nat} {s : Sl} {e0 e1 : Ent} (h : IsStack w B s ([] ++ [e0] ++ [e1])) :
    ∃ sb cap, s = ⟨some ⟨sb, 0, none⟩, 2, cap⟩ ∧ 2 ≤ cap ∧ sb < w.heap.size ∧ w.cell? ⟨sb, 0, none⟩ = some (.iface e0.bt e0.bv) := by
  obtain ⟨h0, h⟩ := h
  obtain ⟨a, n, c⟩ := s
  simp only [List.length_append, List.length_cons, List.length_nil] at h0
  subst h0
  rcases h.2 with ⟨_, h2⟩ | ⟨sb, cap, cur, h1, h2, h3, h4, _⟩
  · simp at h2
  · simp only [Sl.v, Value.slice.injEq] at h1
    simp only [Sl.v] at h
    obtain ⟨rfl, _, rfl⟩ := h1
    refine ⟨sb, c, rfl, h4, Blk.lt h3, ?_⟩
    rw [World.ownsRow.cellAt h _ (by simp)]
    simp [Ent.cells]
set_option maxHeartbeats 1600000 in
theorem curB_low (B g : Nat) (r : PSr) (e0 e1 : Ent) (w : World) (hps : IsPS w g r) (hst : IsStack w B r.stack ([] ++ [e0] ++ [e1])) (hd : r.lineDepth = 0) :
    Calls Tryz.prog 138 #[.pointer (some ⟨g, 0, none⟩)] w fun e w' => e = .returned (.iface e0.bt e0.bv) ∧ ∃ n, w' = w.drewN n := by
  obtain ⟨sb, cap, hv, hcap, hsb, k0⟩ := hst.low
  have c4 := hps.c4
  have c5 := hps.c5
  rw [hv] at c4
  rw [hd] at c5
  have HV := hid hv
  clear hv hd
  go_enter Tryz.func138, Tryz.ntmps138
  go_wp2
  go_quiet (fail)
  go_wp2
  go_quiet (fail)
  go_wp2
  go_ret
  exact ⟨rfl, _, World.drewN_drewN _ _ _⟩
set_option maxRecDepth 20000 in
set_option maxHeartbeats 1600000 in
theorem trimSetext_no (b i : Nat) (tb nl : Int) (v : Value) (s : ByteArray) (w : World) (h : IsLn w b i tb s nl) (hs : s.size ≤ 140737488355328) (hi : i ≤ s.size) (ht : ∀ k, bt s k ≠ 9) (hq : ∀ k, Reach s i k → bt s k ≠ 45 ∧ bt s k ≠ 61) :
    Calls Tryz.prog 134 #[.pointer (some ⟨b, 0, none⟩), v] w fun e w' => e = .returned (.bool false) ∧ Below w.heap.size w w' := by
  have h0 := h.c0
  have h1 := h.c1
  have h2 := h.c2
  have h3 := h.c3
  have h4 := h.c4
  have HT := hid ht
  have HQ := hid hq
  clear ht hq h
  go_enter Tryz.func134, Tryz.ntmps134
  go_wp2_with fail
  refine (trimSp_any _ i 0 3 false tb nl s _ (Blk.new' rfl) hs hi HT.out (by omega) (by omega)).mono ?_
  rintro e w1 ⟨j, a1, a2, a3, a4, a5, a6, hm⟩
  rcases a6 with ⟨rfl, _, hln⟩ | ⟨_, hbad, _⟩
  · have q0 := HQ.out j ⟨a1, a2, a3, a4⟩
    have q1 : (bt s j == 45) = false := by simpa using q0.1
    have q2 : (bt s j == 61) = false := by simpa using q0.2
    have HLN := hid hln
    have HM := hid hm
    clear hln hm a4 a5 q0
    go_wp2_with fail
    refine (peek_any _ j tb nl s _ HLN.out hs).mono ?_
    rintro e w2 ⟨rfl, n2, rfl⟩
    go_wp2_with fail
    all_goals (try rw [Exit.noGoto_ret])
    go_ret
    exact ⟨rfl, below_drewN (((Below.refl _ _).alloc (Nat.le_refl _) _).trans (Mod.toBelow HM.out (by simp) (fun k hk h => by omega))) n2⟩
  · omega
set_option maxRecDepth 20000 in
set_option maxHeartbeats 1600000 in
theorem newSetext_noP (B g pb i : Nat) (r : PSr) (e0 : Ent) (sl el tb nl : Int) (s : ByteArray) (w : World) (hps : IsPS w g r) (hst : IsStack w B r.stack ([] ++ [e0] ++ [parE pb sl el])) (hd : r.lineDepth = 0)
    (hs : s.size ≤ 140737488355328) (hi : i ≤ s.size) (ht : ∀ k, bt s k ≠ 9) (hq : ∀ k, Reach s i k → bt s k ≠ 45 ∧ bt s k ≠ 61) :
    Calls Tryz.prog 87 #[.pointer (some ⟨g, 0, none⟩), lnV i tb s nl] w fun e w' => e = .returned (.tuple #[lnV i tb s nl, .bool false]) ∧ Below w.heap.size w w' := by
  have HPS := hid hps
  have HST := hid hst
  have HT := hid ht
  have HQ := hid hq
  have hg := hps.lt
  clear hps hst ht hq
  have ie := para_eq_para pb
  go_enter Tryz.func87, Tryz.ntmps87
  go_wp2_with fail
  refine (nextB_par B g pb sl el r e0 _ ((((HPS.out.alloc _).alloc _).alloc _).alloc _) ((((HST.out.alloc _).alloc _).alloc _).alloc _) hd).mono ?_
  rintro e w1 ⟨rfl, n1, rfl⟩
  go_wp2_with fail
  refine (para_par B g pb sl el r ([] ++ [e0]) _ (((((HPS.out.alloc _).alloc _).alloc _).alloc _).drewN n1) (((((HST.out.alloc _).alloc _).alloc _).alloc _).drewN n1) (by simp)).mono ?_
  rintro e w2 ⟨rfl, n2, rfl⟩
  have hres : Blk _ (w.heap.size + 1) 104 #[.int .i64 0, .int .i64 0, .int .i64 0, .string ⟨#[]⟩, .int .u8 0] := Blk.drewN (Blk.alloc (Blk.alloc (Blk.new' (w := w.alloc (.cells #[.int .i64 0, .int .i64 i, .int .i64 tb, .string s, .int .u8 nl] 104)) (by simp)) (.cells #[.int .i64 0] 3)) (.cells #[.int .i64 0, .int .i64 i, .int .i64 tb, .string s, .int .u8 nl] 104)) (n1 + n2)
  have hbox : IsLn _ w.heap.size i tb s nl := Blk.drewN (Blk.alloc (Blk.alloc (Blk.alloc (Blk.new' (w := w) rfl : Blk _ w.heap.size 104 (lnC i tb s nl)) (.cells #[.int .i64 0, .int .i64 0, .int .i64 0, .string ⟨#[]⟩, .int .u8 0] 104)) (.cells #[.int .i64 0] 3)) (.cells #[.int .i64 0, .int .i64 i, .int .i64 tb, .string s, .int .u8 nl] 104)) (n1 + n2)
  have hpk : IsLn _ (w.heap.size + 1 + 1 + 1) i tb s nl := Blk.drewN (Blk.new' (w := World.alloc (World.alloc (World.alloc w (.cells #[.int .i64 0, .int .i64 i, .int .i64 tb, .string s, .int .u8 nl] 104)) (.cells #[.int .i64 0, .int .i64 0, .int .i64 0, .string ⟨#[]⟩, .int .u8 0] 104)) (.cells #[.int .i64 0] 3)) (by simp) : Blk _ (w.heap.size + 1 + 1 + 1) 104 (lnC i tb s nl)) (n1 + n2)
  have hbel : Below w.heap.size w _ := below_drewN (((((Below.refl w.heap.size w).alloc (Nat.le_refl _) (.cells #[.int .i64 0, .int .i64 i, .int .i64 tb, .string s, .int .u8 nl] 104)).alloc (by simp) (.cells #[.int .i64 0, .int .i64 0, .int .i64 0, .string ⟨#[]⟩, .int .u8 0] 104)).alloc (by simp; omega) (.cells #[.int .i64 0] 3)).alloc (by simp; omega) (.cells #[.int .i64 0, .int .i64 i, .int .i64 tb, .string s, .int .u8 nl] 104)) (n1 + n2)
  have hl : (lnC i tb s nl) = #[.int .i64 0, .int .i64 i, .int .i64 tb, .string s, .int .u8 nl] := rfl
  rw [hl] at hbox hpk
  have hsz : w.heap.size + 4 ≤ (World.drewN (World.alloc (World.alloc (World.alloc (World.alloc w (.cells #[.int .i64 0, .int .i64 i, .int .i64 tb, .string s, .int .u8 nl] 104)) (.cells #[.int .i64 0, .int .i64 0, .int .i64 0, .string ⟨#[]⟩, .int .u8 0] 104)) (.cells #[.int .i64 0] 3)) (.cells #[.int .i64 0, .int .i64 i, .int .i64 tb, .string s, .int .u8 nl] 104)) (n1 + n2)).heap.size := by simp
  rw [World.drewN_drewN]
  generalize World.drewN _ (n1 + n2) = wa at hres hbox hbel hpk hsz ⊢
  have HPK := hid hpk
  have HRE := hid hres
  have HBX := hid hbox
  have HBE := hid hbel
  clear hpk hres hbox hbel
  go_wp2_with fail
  refine (trimSetext_no _ i tb nl _ s _ HPK.out hs hi HT.out HQ.out).mono ?_
  rintro e w3 ⟨rfl, hb3⟩
  have hm3 := Mod.below' (S := fun _ => False) hb3
  have hres := HRE.out.mod hm3 (fun h => h)
  have hbox := HBX.out.mod hm3 (fun h => h)
  have hbel := HBE.out.trans (hb3.mono (by omega))
  clear hb3 hm3 HPK HRE HBX HBE
  replace hbox : IsLn w3 w.heap.size i tb s nl := hbox
  have c0 := hbox.c0
  have c1 := hbox.c1
  have c2 := hbox.c2
  have c3 := hbox.c3
  have c4 := hbox.c4
  have r0 := hres.at_ 0 rfl
  have r1 := hres.at_ 1 rfl
  have r2 := hres.at_ 2 rfl
  have r3 := hres.at_ 3 rfl
  have r4 := hres.at_ 4 rfl
  have fr := hres.free
  have HR := hid hres
  have HB := hid hbel
  clear hbox hres hbel
  unfold lnV
  go_wp2_with fail
  have hln : Hid (IsLn _ (w.heap.size + 1) i tb s nl) := hid (ln_store HR.out i tb nl s)
  have hb3 : Hid (Below w.heap.size w _) := hid (((((HB.out.setCell (p := ⟨w.heap.size + 1, 0, none⟩) (by simp) (.int .i64 0)).setCell (p := ⟨w.heap.size + 1, 1, none⟩) (by simp) (.int .i64 i)).setCell (p := ⟨w.heap.size + 1, 2, none⟩) (by simp) (.int .i64 tb)).setCell (p := ⟨w.heap.size + 1, 3, none⟩) (by simp) (.string s)).setCell (p := ⟨w.heap.size + 1, 4, none⟩) (by simp) (.int .u8 nl))
  generalize World.setCell _ ⟨w.heap.size + 1, 4, none⟩ _ = wy at hln hb3 ⊢
  clear c0 c1 c2 c3 c4 r0 r1 r2 r3 r4 fr
  have k0 := hln.out.c0
  have k1 := hln.out.c1
  have k2 := hln.out.c2
  have k3 := hln.out.c3
  have k4 := hln.out.c4
  refine bodyPost_ret (by simp [results, Tryz.results87, go_sem, k0, k1, k2, k3, k4]; try rfl) rfl ?_
  exact ⟨rfl, hb3.out⟩
set_option maxRecDepth 20000 in
set_option maxHeartbeats 1600000 in
theorem newListItem_viaP (B g : Nat) (r : PSr) (e0 e1 : Ent) (p : Option Addr) (nl : Int) (s : ByteArray) (w : World) (hps : IsPS w g r) (hst : IsStack w B r.stack ([] ++ [e0] ++ [e1])) (hd : r.lineDepth = 0) (hb1 : e0.bt = 98) (hb2 : e0.bv = .pointer p)
    (_ : s.size ≤ 140737488355328) (hq : ∀ b w, IsLn w b 0 0 s nl → Calls Tryz.prog 139 #[.pointer (some ⟨g, 0, none⟩), .pointer (some ⟨b, 0, none⟩)] w fun e w' => e = .returned (.bool false) ∧ Below w.heap.size w w') :
    Calls Tryz.prog 89 #[.pointer (some ⟨g, 0, none⟩), lnV 0 0 s nl] w fun e w' => e = .returned (.tuple #[lnV 0 0 s nl, .bool false]) ∧ Below w.heap.size w w' := by
  have HQ := hid hq
  have HPS := hid hps
  have HST := hid hst
  have ta := ta_root_list p
  have hl1 := hps.lt
  clear hq hps hst
  go_enter Tryz.func89, Tryz.ntmps89
  go_wp2_with fail
  refine (curB_low B g r e0 e1 _ ((HPS.out.alloc _).alloc _) ((HST.out.alloc _).alloc _) hd).mono ?_
  rintro e w1 ⟨rfl, n1, rfl⟩
  rw [hb1, hb2]
  go_wp2_with fail
  refine (HQ.out _ _ (Blk.drewN (Blk.alloc (Blk.new' rfl) _) n1)).mono ?_
  rintro e w1 ⟨rfl, hb⟩
  have hm2 := Mod.below' (S := fun _ => False) hb
  have hbox : IsLn w1 w.heap.size 0 0 s nl := (Blk.drewN (Blk.alloc (Blk.new' rfl) _) n1 : Blk _ w.heap.size 104 (lnC 0 0 s nl)).mod (S := fun _ => False) hm2 (fun h => h)
  have hres : Blk w1 (w.heap.size + 1) 104 #[.int .i64 0, .int .i64 0, .int .i64 0, .string ⟨#[]⟩, .int .u8 0] := (Blk.drewN (Blk.new' (by simp)) n1 : Blk _ (w.heap.size + 1) 104 #[.int .i64 0, .int .i64 0, .int .i64 0, .string ⟨#[]⟩, .int .u8 0]).mod (S := fun _ => False) hm2 (fun h => h)
  have hbel : Below w.heap.size w w1 := (below_drewN (((Below.refl _ _).alloc (Nat.le_refl _) _).alloc (by simp) _) n1).trans (hb.mono (by simp; omega))
  clear hb hm2
  have c0 := hbox.c0
  have c1 := hbox.c1
  have c2 := hbox.c2
  have c3 := hbox.c3
  have c4 := hbox.c4
  have r0 := hres.at_ 0 rfl
  have r1 := hres.at_ 1 rfl
  have r2 := hres.at_ 2 rfl
  have r3 := hres.at_ 3 rfl
  have r4 := hres.at_ 4 rfl
  have fr := hres.free
  have HR := hid hres
  have HB := hid hbel
  clear hbox hres hbel
  unfold lnV
  go_wp2_with fail
  have hln : Hid (IsLn _ (w.heap.size + 1) 0 0 s nl) := hid (ln_store HR.out 0 0 nl s)
  have hb2 : Hid (Below w.heap.size w _) := hid (((((HB.out.setCell (p := ⟨w.heap.size + 1, 0, none⟩) (by simp) (.int .i64 0)).setCell (p := ⟨w.heap.size + 1, 1, none⟩) (by simp) (.int .i64 (0 : Nat))).setCell (p := ⟨w.heap.size + 1, 2, none⟩) (by simp) (.int .i64 0)).setCell (p := ⟨w.heap.size + 1, 3, none⟩) (by simp) (.string s)).setCell (p := ⟨w.heap.size + 1, 4, none⟩) (by simp) (.int .u8 nl))
  generalize World.setCell _ ⟨w.heap.size + 1, 4, none⟩ _ = wy at hln hb2 ⊢
  clear c0 c1 c2 c3 c4 r0 r1 r2 r3 r4 fr
  have k0 := hln.out.c0
  have k1 := hln.out.c1
  have k2 := hln.out.c2
  have k3 := hln.out.c3
  have k4 := hln.out.c4
  refine bodyPost_ret (by simp [results, Tryz.results89, go_sem, k0, k1, k2, k3, k4]; try rfl) rfl ?_
  exact ⟨rfl, hb2.out⟩
set_option maxRecDepth 20000 in
set_option maxHeartbeats 1600000 in
theorem newPre_noP (B g pb : Nat) (sl el : Int) (r : PSr) (e0 : Ent) (nl : Int) (s : ByteArray) (w : World) (hps : IsPS w g r) (hst : IsStack w B r.stack ([] ++ [e0] ++ [parE pb sl el])) :
    Calls Tryz.prog 92 #[.pointer (some ⟨g, 0, none⟩), lnV 0 0 s nl] w fun e w' => e = .returned (.tuple #[lnV 0 0 s nl, .bool false]) ∧ Below w.heap.size w w' := by
  have HPS := hid hps
  have HST := hid hst
  clear hps hst
  go_enter Tryz.func92, Tryz.ntmps92
  go_wp2_with fail
  refine (para_par B g pb sl el r ([] ++ [e0]) _ (((HPS.out.alloc _).alloc _).alloc _) (((HST.out.alloc _).alloc _).alloc _) (by simp)).mono ?_
  rintro e w1 ⟨rfl, n1, rfl⟩
  have hbox : IsLn (World.drewN (World.alloc (World.alloc (World.alloc w (.cells #[.int .i64 0, .int .i64 0, .int .i64 0, .string s, .int .u8 nl] 104)) (.cells #[.int .i64 0, .int .i64 0, .int .i64 0, .string ⟨#[]⟩, .int .u8 0] 104)) (.cells #[.int .i64 0, .int .i64 0, .int .i64 0, .string s, .int .u8 nl] 104)) n1) w.heap.size 0 0 s nl := Blk.drewN (Blk.alloc (Blk.alloc (Blk.new' rfl) _) _) n1
  have hres : Blk (World.drewN (World.alloc (World.alloc (World.alloc w (.cells #[.int .i64 0, .int .i64 0, .int .i64 0, .string s, .int .u8 nl] 104)) (.cells #[.int .i64 0, .int .i64 0, .int .i64 0, .string ⟨#[]⟩, .int .u8 0] 104)) (.cells #[.int .i64 0, .int .i64 0, .int .i64 0, .string s, .int .u8 nl] 104)) n1) (w.heap.size + 1) 104 #[.int .i64 0, .int .i64 0, .int .i64 0, .string ⟨#[]⟩, .int .u8 0] := Blk.drewN (Blk.alloc (Blk.new' (by simp)) _) n1
  have hbel : Below w.heap.size w (World.drewN (World.alloc (World.alloc (World.alloc w (.cells #[.int .i64 0, .int .i64 0, .int .i64 0, .string s, .int .u8 nl] 104)) (.cells #[.int .i64 0, .int .i64 0, .int .i64 0, .string ⟨#[]⟩, .int .u8 0] 104)) (.cells #[.int .i64 0, .int .i64 0, .int .i64 0, .string s, .int .u8 nl] 104)) n1) := below_drewN ((((Below.refl _ _).alloc (Nat.le_refl _) _).alloc (by simp) _).alloc (by simp; omega) _) n1
  generalize World.drewN _ n1 = w2 at hbox hres hbel ⊢
  have c0 := hbox.c0
  have c1 := hbox.c1
  have c2 := hbox.c2
  have c3 := hbox.c3
  have c4 := hbox.c4
  have r0 := hres.at_ 0 rfl
  have r1 := hres.at_ 1 rfl
  have r2 := hres.at_ 2 rfl
  have r3 := hres.at_ 3 rfl
  have r4 := hres.at_ 4 rfl
  have fr := hres.free
  have HR := hid hres
  have HB := hid hbel
  clear hbox hres hbel
  unfold lnV
  go_wp2_with fail
  have hln : Hid (IsLn _ (w.heap.size + 1) 0 0 s nl) := hid (ln_store HR.out 0 0 nl s)
  have hb3 : Hid (Below w.heap.size w _) := hid (((((HB.out.setCell (p := ⟨w.heap.size + 1, 0, none⟩) (by simp) (.int .i64 0)).setCell (p := ⟨w.heap.size + 1, 1, none⟩) (by simp) (.int .i64 0)).setCell (p := ⟨w.heap.size + 1, 2, none⟩) (by simp) (.int .i64 0)).setCell (p := ⟨w.heap.size + 1, 3, none⟩) (by simp) (.string s)).setCell (p := ⟨w.heap.size + 1, 4, none⟩) (by simp) (.int .u8 nl))
  generalize World.setCell _ ⟨w.heap.size + 1, 4, none⟩ _ = wy at hln hb3 ⊢
  clear c0 c1 c2 c3 c4 r0 r1 r2 r3 r4 fr
  have k0 := hln.out.c0
  have k1 := hln.out.c1
  have k2 := hln.out.c2
  have k3 := hln.out.c3
  have k4 := hln.out.c4
  refine bodyPost_ret (by simp [results, Tryz.results92, go_sem, k0, k1, k2, k3, k4]; try rfl) rfl ?_
  exact ⟨rfl, hb3.out⟩
end Go.Proofs.YtmmijmhdbpldpaaGreatDoor
/- A paragraph is open: a line that no starter takes is its next line. -/

namespace Go.Proofs.YtmmijmhdbpldpaaGreatDoor
open Go.RowKit
theorem IsStack.endLow {w : World} {B sb cap : Nat} {e0 e1 : Ent} {st : Sl} (hst : IsStack w B st ([] ++ [e0] ++ [e1])) (hs : st = ⟨some ⟨sb, 0, none⟩, 2, cap⟩) (x : Int) : IsStack (w.setCell ⟨sb, 3, none⟩ (.int .i64 x)) B st ([] ++ [{ e0 with el := x }] ++ [e1]) := by
  refine ⟨hst.1, ?_⟩
  have s0 := hst.2
  rw [hs] at s0 ⊢
  have s1 := (s0.stored 3 (.int .i64 x)).1
  simpa [Ent.cells] using s1
def MoreParaP (B g pb : Nat) (r : PSr) (e0 : Ent) (sl : Int) (v : Sl) (ls : List Value) (txt : List UInt8) (w w' : World) : Prop :=
  ∃ v', IsPS w' g r ∧ IsStack w' B r.stack ([] ++ [{ e0 with el := r.lineno }] ++ [parE pb sl r.lineno]) ∧ IsPara w' B pb v' (ls ++ [lineV txt]) ∧ v'.n = v.n + 1 ∧
    Mod (fun k => k = pb ∨ some k = r.stack.v.ownBlock ∨ some k = v.v.ownBlock) w w'
set_option maxRecDepth 20000 in
set_option maxHeartbeats 4000000 in
theorem newPara_more (B g pb : Nat) (r : PSr) (e0 : Ent) (sl el : Int) (v : Sl) (ls : List Value) (i : Nat) (nl : Int) (s : ByteArray) (w : World) (hB : B ≤ w.heap.size) (hps : IsPS w g r) (hst : IsStack w B r.stack ([] ++ [e0] ++ [parE pb sl el])) (hd : r.lineDepth = 0) (hpar : IsPara w B pb v ls) (hvn : v.n ≤ 100000)
    (hs : s.size ≤ 1000000) (hi : i ≤ s.size) (htb : w.cell? ⟨r.parser, 5, none⟩ = some (.bool false)) :
    Calls Tryz.prog 62 #[.pointer (some ⟨g, 0, none⟩), lnV i 0 s nl] w fun e w' => e = .returned (.tuple #[lnV 0 0 ⟨#[]⟩ 0, .bool true]) ∧ MoreParaP B g pb r e0 sl v ls (trimL (s.data.toList.drop i)) w w' := by
  obtain ⟨is0, his, hsz0, hsz1, hsz2⟩ := info_parts infoStrP
  obtain ⟨sb, cap, hshape, hcap, hsbl, _⟩ := hst.low
  obtain ⟨va, vn, vc⟩ := v
  dsimp only at hvn
  have HSH := hid hshape
  have HPS := hid hps
  have HST := hid hst
  have HD := hid hd
  have HTB := hid htb
  have HPR := hid hpar
  clear hps hst hd htb hpar hshape
  go_enter Tryz.func62, Tryz.ntmps62
  go_wp2_with fail
  refine (para_par B g pb sl el r ([] ++ [e0]) _ ((HPS.out.alloc _).alloc _) ((HST.out.alloc _).alloc _) (by simp)).mono ?_
  rintro e w1 ⟨rfl, n1, rfl⟩
  go_wp2_with fail
  have hbA : Hid (Below w.heap.size w (World.drewN _ n1)) := hid (below_drewN (((Below.refl _ w).alloc (Nat.le_refl _) (.cells #[.int .i64 0, .int .i64 i, .int .i64 0, .string s, .int .u8 nl] 104)).alloc (by simp) (.cells #[.int .i64 0, .int .i64 0, .int .i64 0, .string ⟨#[]⟩, .int .u8 0] 104)) n1)
  have hlA : Hid (IsLn (World.drewN _ n1) w.heap.size i 0 s nl) := hid (Blk.drewN (Blk.alloc (Blk.new w 104 #[.int .i64 0, .int .i64 i, .int .i64 0, .string s, .int .u8 nl]) (.cells #[.int .i64 0, .int .i64 0, .int .i64 0, .string ⟨#[]⟩, .int .u8 0] 104)) n1)
  have hrA : Hid (Blk (World.drewN _ n1) (w.heap.size + 1) 104 #[.int .i64 0, .int .i64 0, .int .i64 0, .string ⟨#[]⟩, .int .u8 0]) := hid (Blk.drewN (Blk.new' (w := World.alloc w (.cells #[.int .i64 0, .int .i64 i, .int .i64 0, .string s, .int .u8 nl] 104)) (by simp)) n1)
  generalize World.drewN _ n1 = wa at hlA hrA hbA ⊢
  have hpA := hid (HPS.out.below hbA.out)
  have hsA := hid (HST.out.below hbA.out)
  have hPA : Hid (IsPara wa B pb ⟨va, vn, vc⟩ ls) := hid ⟨HPR.out.1.mod (Mod.below' (S := fun _ => False) hbA.out) (fun x => x), own_mod HPR.out.2.1 (Mod.below' (S := fun _ => False) hbA.out) (fun _ _ x => x), HPR.out.2.2⟩
  have htA : Hid (wa.cell? ⟨r.parser, 5, none⟩ = some (.bool false)) := hid ((hbA.out.cell (World.block_lt_of_cell? w _ HTB.out)).trans HTB.out)
  have c4 := hpA.out.c4
  have c5 := hpA.out.c5
  have c0 := hpA.out.c0
  have c3 := hpA.out.c3
  have p1 : wa.cell? ⟨pb, 1, none⟩ = some (.pointer none) := hPA.out.1.at_ 1 rfl
  have p0 : wa.cell? ⟨pb, 0, none⟩ = some (.slice va vn vc) := hPA.out.1.at_ 0 rfl
  have htA2 : wa.cell? ⟨r.parser, 5, none⟩ = some (.bool false) := htA.out
  rw [HD.out] at c5
  rw [HSH.out] at c4
  go_quiet (fail)
  go_wp2_with fail
  refine (trimSS_any w.heap.size s i _ hi (by omega) ?_ ?_).mono ?_
  · exact hlA.out.c1
  · exact hlA.out.c3
  rintro e w2 ⟨rfl, n2, rfl⟩
  generalize htx : trimL (s.data.toList.drop i) = txt
  rw [World.drewN_drewN]
  generalize nq + n2 = q
  go_wp2_with fail
  go_quiet (fail)
  rw [World.drewN_drewN]
  generalize q + nq = q2
  have hcs : ∃ cs, Blk wa sb 121 cs ∧ 8 ≤ cs.size := by
    obtain ⟨sb', cap', cs', e1, e2, e3, e4, _⟩ := hsA.out.shape (by simp)
    rw [HSH.out] at e1
    simp only [Sl.mk.injEq, Option.some.injEq, Addr.mk.injEq] at e1
    obtain ⟨⟨rfl, _⟩, _⟩ := e1
    exact ⟨cs', e2, by simp at e3; omega⟩
  obtain ⟨cs, hcs, hcz⟩ := hcs
  have HCS := hid hcs
  have s3 := hcs.at_ 3 (Array.getElem?_eq_getElem (by omega))
  have s7 := hcs.at_ 7 (Array.getElem?_eq_getElem (by omega))
  have sf := hcs.free
  clear hcs
  go_wp2_with fail
  refine wp_loop_rounds 3 ?_
  rw [rounds_succ]
  go_wp2_with fail
  go_region
  have HPb : Hid (IsPS ((wa.drewN (q2 + 1)).setCell ⟨sb, 3, none⟩ (.int .i64 r.lineno)) g r) := hid ((hpA.out.drewN (q2 + 1)).far (p := ⟨sb, 3, none⟩) (Blk.ne_ hpA.out HCS.out (by decide)) _)
  have HSb : Hid (IsStack ((wa.drewN (q2 + 1)).setCell ⟨sb, 3, none⟩ (.int .i64 r.lineno)) B r.stack ([] ++ [{ e0 with el := r.lineno }] ++ [parE pb sl el])) := hid ((hsA.out.drewN (q2 + 1)).endLow HSH.out r.lineno)
  have HRb : Hid (IsPara ((wa.drewN (q2 + 1)).setCell ⟨sb, 3, none⟩ (.int .i64 r.lineno)) B pb ⟨va, vn, vc⟩ ls) := hid (IsPara.far (w := wa.drewN (q2 + 1)) hPA.out (p := ⟨sb, 3, none⟩) HCS.out (by decide) (by decide) _)
  have HLb : Hid (Blk ((wa.drewN (q2 + 1)).setCell ⟨sb, 3, none⟩ (.int .i64 r.lineno)) (w.heap.size + 1) 104 #[.int .i64 0, .int .i64 0, .int .i64 0, .string ⟨#[]⟩, .int .u8 0]) := hid ((hrA.out.drewN (q2 + 1)).far (p := ⟨sb, 3, none⟩) (Blk.ne_ hrA.out HCS.out (by decide)) _)
  have HCb : Hid (Blk ((wa.drewN (q2 + 1)).setCell ⟨sb, 3, none⟩ (.int .i64 r.lineno)) sb 121 (cs.setIfInBounds 3 (.int .i64 r.lineno))) := hid ((HCS.out.drewN (q2 + 1)).set_ 3 _)
  have HMb : Hid (Mod (fun k => k = sb) w ((wa.drewN (q2 + 1)).setCell ⟨sb, 3, none⟩ (.int .i64 r.lineno))) := hid (((Mod.below' (S := fun k => k = sb) hbA.out).drewN (q2 + 1)).setCell (p := ⟨sb, 3, none⟩) (.inl rfl) _)
  clear c4 c5 c0 c3 p1 p0 htA2 s3 s7 sf hpA hsA hlA hrA hbA hPA htA HCS
  generalize World.setCell _ ⟨sb, 3, none⟩ _ = wb at HPb HSb HRb HLb HCb HMb ⊢
  have c4 := HPb.out.c4
  have c3 := HPb.out.c3
  rw [HSH.out] at c4
  have s7 : wb.cell? ⟨sb, 7, none⟩ = some _ := HCb.out.at_ 7 (Array.getElem?_eq_getElem (by simp; omega))
  have sf := HCb.out.free
  go_wp2_with fail
  rw [rounds_succ]
  go_wp2_with fail
  go_region
  have HPd : Hid (IsPS (wb.setCell ⟨sb, 7, none⟩ (.int .i64 r.lineno)).drew g r) := hid ((HPb.out.far (p := ⟨sb, 7, none⟩) (Blk.ne_ HPb.out HCb.out (by decide)) _).drewN 1)
  have HSd : Hid (IsStack (wb.setCell ⟨sb, 7, none⟩ (.int .i64 r.lineno)).drew B r.stack ([] ++ [{ e0 with el := r.lineno }] ++ [parE pb sl r.lineno])) := hid ((HSb.out.endLine HSH.out r.lineno).drewN 1)
  have HRd : Hid (IsPara (wb.setCell ⟨sb, 7, none⟩ (.int .i64 r.lineno)).drew B pb ⟨va, vn, vc⟩ ls) := hid (IsPara.far HRb.out (p := ⟨sb, 7, none⟩) HCb.out (by decide) (by decide) _)
  have HLd : Hid (Blk (wb.setCell ⟨sb, 7, none⟩ (.int .i64 r.lineno)).drew (w.heap.size + 1) 104 #[.int .i64 0, .int .i64 0, .int .i64 0, .string ⟨#[]⟩, .int .u8 0]) := hid ((HLb.out.far (p := ⟨sb, 7, none⟩) (Blk.ne_ HLb.out HCb.out (by decide)) _).drewN 1)
  have HMd : Hid (Mod (fun k => k = sb) w (wb.setCell ⟨sb, 7, none⟩ (.int .i64 r.lineno)).drew) := hid ((HMb.out.setCell (p := ⟨sb, 7, none⟩) (.inl rfl) _).drewN 1)
  clear c4 c3 s7 sf HPb HSb HRb HLb HCb HMb
  generalize World.drew _ = wd at HPd HSd HRd HLd HMd ⊢
  have c4 := HPd.out.c4
  rw [HSH.out] at c4
  have p0 : wd.cell? ⟨pb, 0, none⟩ = some (.slice va vn vc) := HRd.out.1.at_ 0 rfl
  have fp := HRd.out.1.free
  have hpw : pb < w.heap.size := HPR.out.1.lt
  have hl2 : ¬ pb = w.heap.size + 1 := by omega
  have hl3 : ¬ w.heap.size + 1 = pb := by omega
  have hBd : B ≤ wd.heap.size := Nat.le_trans hB HMd.out.size
  go_wp2_with fail
  rw [rounds_succ]
  go_wp2_with (at_builtin; refine wpList_append_lies _ rfl (.tmp 168) (.tmp 170) 33 (by rfl) B 9 is0 _ 1 16 Tryz.underlying33 his hsz0 hsz1 hsz2 rfl (by decide) (.slice va vn vc) vn ls (by rfl) (World.ownsRow.alloc HRd.out.2.1 _) ⟨wd.heap.size, 0, none⟩ 1 1 [.string ⟨txt.toArray⟩] (by rfl) rfl (World.news_of_block (heap_alloc_new _ _)) (by intro v hv; simp at hv; subst hv; rfl) (by omega) (by unfold maxLen; omega) (by omega) (by simp; omega) (wd.heap.size + 1) (by simp) ?_
               intro g2 cap2 w4 hown4 hgr4 hat4 hlt4
               have hp4 : Blk w4 pb 166 #[.slice va vn vc, .pointer none] := Blk.grown (Blk.alloc HRd.out.1 _) hgr4 (own_ne HRd.out.2.1 HRd.out.1 (by decide))
               have q1 : w4.cell? ⟨pb, 0, none⟩ = some (.slice va vn vc) := hp4.at_ 0 rfl
               have fq := hp4.free
               have hr4 : Blk w4 (w.heap.size + 1) 104 #[.int .i64 0, .int .i64 0, .int .i64 0, .string ⟨#[]⟩, .int .u8 0] := Blk.grown (Blk.alloc HLd.out _) hgr4 (own_ne HRd.out.2.1 HLd.out (by decide))
               have r0 := hr4.at_ 0 rfl
               have r1 := hr4.at_ 1 rfl
               have r2 := hr4.at_ 2 rfl
               have r3 := hr4.at_ 3 rfl
               have r4 := hr4.at_ 4 rfl
               have fr := hr4.free)
  have m4 : Mod (fun k => some k = (Value.slice va vn vc).ownBlock) wd w4 := Mod.grown ((Mod.refl _ wd).alloc _) hgr4 (fun k hk => .inl hk.symm)
  have HP5 := hid ((HPd.out.mod m4 (fun h => own_ne HRd.out.2.1 HPd.out (by decide) h)).far (p := ⟨pb, 0, none⟩) (Blk.ne_ HPd.out HRd.out.1 (by decide)) (.slice (some ⟨g2, 0, none⟩) (vn + 1) cap2))
  have HS5 := hid ((HSd.out.mod m4 (fun k hk e => ownApart HSd.out.2 HRd.out.2.1 (by decide) hk e.symm)).far (p := ⟨pb, 0, none⟩) (own_ne HSd.out.2 HRd.out.1 (by decide)) (.slice (some ⟨g2, 0, none⟩) (vn + 1) cap2))
  have HR5 := hid (hr4.far (p := ⟨pb, 0, none⟩) (Blk.ne_ hr4 hp4 (by decide)) (.slice (some ⟨g2, 0, none⟩) (vn + 1) cap2))
  have HK5 := hid (Blk.set_ hp4 0 (.slice (some ⟨g2, 0, none⟩) (vn + 1) cap2))
  have HO5 := hid (own_far hown4 (p := ⟨pb, 0, none⟩) (own_ne hown4 hp4 (by decide)) (.slice (some ⟨g2, 0, none⟩) (vn + 1) cap2))
  have HM5 := hid ((m4.mono (S' := fun k => k = pb ∨ some k = (Value.slice va vn vc).ownBlock) (fun _ _ h => .inr h)).setCell (p := ⟨pb, 0, none⟩) (.inl (.inl rfl)) (.slice (some ⟨g2, 0, none⟩) (vn + 1) cap2))
  clear m4 hown4 hgr4 hat4 hlt4 hp4 q1 fq r0 r1 r2 r3 r4 fr hr4 p0 fp c4
  generalize World.setCell w4 ⟨pb, 0, none⟩ _ = wc at HP5 HS5 HR5 HK5 HO5 HM5 ⊢
  have hln := hid (line_zero HR5.out)
  have hmy : Hid (Mod (fun k => k = w.heap.size + 1) wc _) := hid ((((((Mod.refl (fun k => k = w.heap.size + 1) wc).setCell (p := ⟨w.heap.size + 1, 0, none⟩) (.inl rfl) (.int .i64 0)).setCell (p := ⟨w.heap.size + 1, 1, none⟩) (.inl rfl) (.int .i64 0)).setCell (p := ⟨w.heap.size + 1, 2, none⟩) (.inl rfl) (.int .i64 0)).setCell (p := ⟨w.heap.size + 1, 3, none⟩) (.inl rfl) (.string ⟨#[]⟩)).setCell (p := ⟨w.heap.size + 1, 4, none⟩) (.inl rfl) (.int .u8 0))
  generalize World.setCell _ ⟨w.heap.size + 1, 4, none⟩ _ = wy at hln hmy ⊢
  have hl4 := hln.out
  have k0 := hl4.at_ 0 rfl
  have k1 := hl4.at_ 1 rfl
  have k2 := hl4.at_ 2 rfl
  have k3 := hl4.at_ 3 rfl
  have k4 := hl4.at_ 4 rfl
  clear hl4
  refine bodyPost_ret (by simp [results, Tryz.results62, go_sem, k0, k1, k2, k3, k4]; try rfl) rfl ?_
  have hown : some sb = r.stack.v.ownBlock := by rw [HSH.out]; rfl
  refine ⟨rfl, ?_⟩
  rw [htx]
  refine ⟨⟨some ⟨g2, 0, none⟩, vn + 1, cap2⟩, HP5.out.mod hmy.out (Blk.ne_ HP5.out HR5.out (by decide)), HS5.out.mod hmy.out (fun k hk e => own_ne HS5.out.2 HR5.out (by decide) (by rw [hk, e])), ⟨by simpa using HK5.out.mod hmy.out hl2, own_mod HO5.out hmy.out (fun k hk e => own_ne HO5.out HR5.out (by decide) (by rw [hk, e])), HRd.out.2.2⟩, rfl, ?_⟩
  refine ((HMd.out.mono (S' := fun k => k = pb ∨ some k = r.stack.v.ownBlock ∨ some k = (Value.slice va vn vc).ownBlock) (fun k _ e => .inr (.inl (by rw [e]; exact hown)))).trans HM5.out (fun k _ e => ?_)).trans hmy.out (fun k hk e => by omega)
  rcases e with e | e
  · exact .inl e
  · exact .inr (.inr e)
end Go.Proofs.YtmmijmhdbpldpaaGreatDoor
/- A line while a paragraph is open behind the root: the paragraph's next line, or what a starter makes of it. -/


namespace Go.Proofs.YtmmijmhdbpldpaaGreatDoor
open Go.RowKit
set_option maxRecDepth 20000 in
theorem addLine_overP (B g qb : Nat) (r : PSr) (e0 : Ent) (sl el nl : Int) (s : ByteArray) (w : World) (F : World → Prop) (n : Nat) (hgB : g < B) (hps : IsPS w g r) (hst : IsStack w B r.stack ([] ++ [e0] ++ [parE qb sl el]))
    (hs : s.size ≤ 100000) (hnb : (Ln.mk 0 s nl).blank = false) (keepF : ∀ w1 w2, F w1 → LnKept w.heap.size w1 w2 → F w2) (hn : n ≤ 8)
    (hno : ∀ i f w1, i < n → newsL[i]? = some f → BlE B g r e0 qb sl el w w1 → Calls Tryz.prog f #[.pointer (some ⟨g, 0, none⟩), lnV 0 0 s nl] w1 fun e w' => e = .returned (.tuple #[lnV 0 0 s nl, .bool false]) ∧ Below w1.heap.size w1 w')
    (hyes : ∀ f w1, newsL[n]? = some f → BlE B g r e0 qb sl el w w1 → Calls Tryz.prog f #[.pointer (some ⟨g, 0, none⟩), lnV 0 0 s nl] w1 fun e w' => e = .returned (.tuple #[lnV 0 0 ⟨#[]⟩ 0, .bool true]) ∧ F w' ∧ w1.heap.size ≤ w'.heap.size ∧ ∀ lb cs, Blk w1 lb 104 cs → Blk w' lb 104 cs)
    (hpar : n = 8 → ∀ w1, BlE B g r e0 qb sl el w w1 → Calls Tryz.prog 62 #[.pointer (some ⟨g, 0, none⟩), lnV 0 0 s nl] w1 fun e w' => (∃ v, e = .returned v) ∧ F w') :
    Calls Tryz.prog 54 #[.pointer (some ⟨g, 0, none⟩), lnV 0 0 s nl] w fun e w' => e = .returned (.tuple #[]) ∧ F w' := by
  obtain ⟨sb, cap, cs0, hsh, hsbb, _, _, hBs⟩ := hst.shape (by simp)
  have hsh2 : r.stack = ⟨some ⟨sb, 0, none⟩, 2, cap⟩ := by rw [hsh]; rfl
  have hgs : g ≤ w.heap.size := Nat.le_of_lt hps.lt
  refine addLine_gen g sb cap 2 r.lineno
    (fun k l w' => k = 0 ∧ l = ⟨0, s, nl⟩ ∧ BlE B g r e0 qb sl el w w')
    (fun d l w' => d = 0 ∧ l = ⟨0, s, nl⟩ ∧ BlE B g r e0 qb sl el w w')
    (fun k l l' ok w' => k = 0 ∧ l = ⟨0, s, nl⟩ ∧ l' = ⟨0, s, nl⟩ ∧ ok = false ∧ BlE B g r e0 qb sl el w w')
    F ⟨0, s, nl⟩ w r hps ⟨Nat.zero_le _, by show s.size ≤ 1000000; omega⟩ rfl ?_ ?_
  · refine { pos := by omega, atJ := ?_, atP := ?_, atE := ?_, keepJ := ?_, keepP := ?_, keepE := ?_, keepQ := keepF, ext := ?_, yes := ?_, no := ?_, last := ?_, blank := ?_, start := ?_ }
    · rintro k l w' ⟨rfl, rfl, h1, h2, _⟩
      exact ⟨atLine_of h1 rfl rfl hsh2 h2 rfl (by omega) (by omega), by omega⟩
    · rintro k l l' ok w' ⟨rfl, rfl, rfl, rfl, h1, h2, _⟩
      exact atLine_of h1 rfl rfl hsh2 h2 rfl (by omega) (by omega)
    · rintro d l w' ⟨rfl, rfl, h1, h2, _⟩
      exact ⟨atLine_of h1 rfl rfl hsh2 h2 rfl (by omega) (by omega), by omega⟩
    · rintro k l w1 w2 ⟨h1, h2, h3⟩ hk
      exact ⟨h1, h2, h3.lnKept hk hgs⟩
    · rintro k l l' ok w1 w2 ⟨h1, h2, h3, h4, h5⟩ hk
      exact ⟨h1, h2, h3, h4, h5.lnKept hk hgs⟩
    · rintro d l w1 w2 ⟨h1, h2, h3⟩ hk
      exact ⟨h1, h2, h3.lnKept hk hgs⟩
    · rintro k l w' ⟨rfl, rfl, h1, h2, h3⟩ hkn hok
      obtain ⟨sb', cap', hv', _, _, _, _, _, c0, _⟩ := h2.top
      rw [hsh2] at hv'
      simp only [Sl.mk.injEq, Option.some.injEq, Addr.mk.injEq] at hv'
      obtain ⟨⟨rfl, _⟩, _⟩ := hv'
      refine ⟨_, _, _, _, c0, para_ext_via qb, Go.Proofs.enters_of Tryz.func281 (by kernel_rfl) rfl, ⟨0, s, nl⟩, false, hok, ?_⟩
      refine (para_extend (.pointer (some ⟨qb, 0, none⟩)) g ⟨0, s, nl⟩ w').mono ?_
      rintro e w3 ⟨rfl, hb⟩
      have hk0 : LnKept w.heap.size w' w3 := LnKept.below hb
      exact ⟨rfl, ⟨rfl, rfl, rfl, rfl, BlE.lnKept ⟨h1, h2, h3⟩ hk0 hgs⟩, hb.size, fun lb cs _ h => Blk.mod h (Mod.below' (S := fun _ => False) hb) (fun x => x)⟩
    · rintro k l l' w' ⟨_, _, _, h, _⟩
      cases h
    · rintro k l l' w' ⟨rfl, rfl, rfl, _, h⟩ _
      refine ⟨rfl, rfl, ?_⟩
      have hu : updB (Ln.mk 0 s nl) (Ln.mk 0 s nl) false = false := by unfold updB; rw [hnb]; simp
      rw [hu]
      exact h
    · rintro l w' ⟨h, _⟩
      cases h
    · rintro d l w' ⟨rfl, rfl, h⟩ hb
      rw [hnb] at hb; cases hb
    · intro d l hbl hok
      refine ⟨n, hn, ?_, ?_, ?_⟩
      · rintro i f w' hi hf ⟨_, rfl, h⟩
        refine (hno i f w' hi hf h).mono ?_
        rintro e w2 ⟨rfl, hb⟩
        exact ⟨rfl, LnKept.below hb, fun lb cs _ hl => Blk.mod (S := fun _ => False) hl (Mod.below' hb) (fun x => x)⟩
      · rintro f w' hf ⟨_, rfl, h⟩
        refine (hyes f w' hf h).mono ?_
        rintro e w2 ⟨rfl, hF, hz, hl⟩
        exact ⟨rfl, hF, hz, fun lb cs _ h => hl lb cs h⟩
      · rintro h8 w' ⟨_, rfl, h⟩
        exact hpar h8 w' h
  · exact ⟨rfl, rfl, hps.set5 0, hst.far (p := ⟨g, 5, none⟩) (own_ne hst.2 hps (by decide)) _, KeepD.of ((Mod.refl (fun k => k = g) w).setCell (p := ⟨g, 5, none⟩) (.inl rfl) _) (fun k _ e => by subst e; exact own3_ps hps), (Mod.refl _ _).setCell (p := ⟨g, 5, none⟩) (.inl (Nat.le_refl _)) _⟩
/-- A line with which no other block begins, or only HTML. -/
structure OverL (s : ByteArray) : Prop where
  size : s.size ≤ 100000
  pos : 0 < s.size
  tab : ∀ k, bt s k ≠ 9
  c : bt s 0 ≠ 32 ∧ bt s 0 ≠ 62 ∧ bt s 0 ≠ 35 ∧ bt s 0 ≠ 45 ∧ bt s 0 ≠ 61 ∧ bt s 0 ≠ 42 ∧ bt s 0 ≠ 95 ∧ bt s 0 ≠ 126 ∧ bt s 0 ≠ 96
  item : NoItem (bt s 0)
theorem OverL.trim {s : ByteArray} (h : OverL s) : trimL s.data.toList = s.data.toList := by
  refine trimL_self (fun c hc => ?_)
  obtain ⟨c', h1, h2⟩ := bt_at s h.pos
  rw [h1] at hc
  simp only [Option.some.injEq] at hc
  subst hc
  exact ⟨fun e => h.c.1 (by rw [h2, e]; rfl), fun e => h.tab 0 (by rw [h2, e]; rfl)⟩
theorem OverL.nblank {s : ByteArray} (h : OverL s) (nl : Int) : (Ln.mk 0 s nl).blank = false := by
  unfold Ln.blank
  show (trimL (s.data.toList.drop 0)).isEmpty = false
  rw [List.drop_zero, h.trim]
  have h1 := h.pos
  rw [Lib.size_eq] at h1
  cases hh : s.data.toList with
  | nil => rw [hh] at h1; simp at h1
  | cons a t => rfl
theorem OverL.decl {B g qb : Nat} {r : PSr} {a : Option Addr} {i0 : Sl} {x y : Int} {sl el nl : Int} {s : ByteArray} {w w1 : World} (h : OverL s) (hE : BlE B g r ⟨98, .pointer a, i0, x, y⟩ qb sl el w w1) (i : Nat) (f : FuncId) (hi : i < 8) (h5 : i = 5 → bt s 0 ≠ 60) (hf : newsL[i]? = some f) :
    Calls Tryz.prog f #[.pointer (some ⟨g, 0, none⟩), lnV 0 0 s nl] w1 fun e w' => e = .returned (.tuple #[lnV 0 0 s nl, .bool false]) ∧ Below w1.heap.size w1 w' := by
  obtain ⟨hp, hst, _, _⟩ := hE
  have hsz := h.size
  obtain ⟨c1, c2, c3, c4, c5, c6, c7, c8, c9⟩ := h.c
  have h8 : i = 0 ∨ i = 1 ∨ i = 2 ∨ i = 3 ∨ i = 4 ∨ i = 5 ∨ i = 6 ∨ i = 7 := by omega
  rcases h8 with rfl | rfl | rfl | rfl | rfl | rfl | rfl | rfl
  · cases hf
    exact newQuote_no2 g 0 0 nl s w1 (by omega) (Nat.zero_le _) h.tab (fun k hk => by rw [reach0 c1 hk]; exact c2)
  · cases hf
    exact newATX_no2 g 0 0 nl s w1 (by omega) (Nat.zero_le _) h.tab (fun k hk => by rw [reach0 c1 hk]; exact c3)
  · cases hf
    exact newSetext_noP B g qb 0 _ _ sl el 0 nl s w1 hp hst rfl (by omega) (Nat.zero_le _) h.tab (fun k hk => by rw [reach0 c1 hk]; exact ⟨c4, c5⟩)
  · cases hf
    exact newHR_no g 0 0 nl s w1 (by omega) (Nat.zero_le _) h.tab (fun k hk => by rw [reach0 c1 hk]; exact ⟨c6, c4, c7⟩)
  · cases hf
    exact newListItem_viaP B g _ _ _ a nl s w1 hp hst rfl rfl rfl (by omega) (fun b w2 hl => startListItem_no g b 0 0 nl _ w2 hl (by omega) (Nat.zero_le _) h.tab (fun k hk => by rw [reach0 c1 hk]; exact h.item))
  · cases hf
    exact newHTML_no g 0 0 nl s w1 (by omega) (Nat.zero_le _) h.tab (fun k hk => by rw [reach0 c1 hk]; exact h5 rfl)
  · cases hf
    exact newFence_no g 0 0 nl s w1 (by omega) (Nat.zero_le _) h.tab (fun k hk => by rw [reach0 c1 hk]; exact ⟨c9, c8⟩)
  · cases hf
    exact newPre_noP B g qb sl el _ _ nl s w1 hp hst
end Go.Proofs.YtmmijmhdbpldpaaGreatDoor
/- How a block of HTML ends: a text contains another one, or an end tag of some names. -/






namespace Go.Proofs.YtmmijmhdbpldpaaGreatDoor
open Go.RowKit
theorem infoU8h : (Tryz.prog.info? 5).map (fun i => (i.zero, i.size, i.bytes)) = some (some (.int .u8 0), 1, 1) := by kernel_rfl
/-- Whether a text contains another one. -/
def hasB : List UInt8 → List UInt8 → Bool
  | [], q => q.isPrefixOf []
  | c :: t, q => q.isPrefixOf (c :: t) || hasB t q
theorem pre_short {l q : List UInt8} (h : l.length < q.length) : q.isPrefixOf l = false := by
  rw [Bool.eq_false_iff]
  intro e
  have := (List.isPrefixOf_iff_prefix.1 e).length_le
  omega
theorem hasB_short : ∀ {l q : List UInt8}, l.length < q.length → hasB l q = false
  | [], q, h => pre_short h
  | c :: t, q, h => by
    unfold hasB
    rw [pre_short h, hasB_short (by simp at h; omega)]
    rfl
theorem hasB_step {l q : List UInt8} {k : Nat} (hk : k < l.length) : hasB (l.drop k) q = (q.isPrefixOf (l.drop k) || hasB (l.drop (k + 1)) q) := by
  rw [List.drop_eq_getElem_cons hk]
  rfl
theorem pre_cut {l q : List UInt8} {k : Nat} (_ : k + q.length ≤ l.length) : (((l.drop k).take q.length) == q) = q.isPrefixOf (l.drop k) := by
  rw [Bool.eq_iff_iff, List.isPrefixOf_iff_prefix, List.prefix_iff_eq_take, beq_iff_eq]
  exact ⟨fun e => e.symm, fun e => e.symm⟩
set_option maxHeartbeats 800000 in
theorem zzIndex_b (S Q : ByteArray) (w : World) (hs : S.size ≤ 1000000) (hq0 : 0 < Q.size) (hq : Q.size ≤ 1000) :
    Calls Tryz.prog 53 #[.string S, .string Q] w fun e w' => (∃ z : Int, e = .returned (.int .i64 z) ∧ decide (0 ≤ z) = hasB S.data.toList Q.data.toList) ∧ w = w' := by
  have ZS := hid (Lib.size_eq S)
  have ZQ := hid (Lib.size_eq Q)
  have HX : Hid (∀ k, k + Q.size ≤ S.size → ((S.extract k (k + Q.size)).toList == Q.toList) = Q.data.toList.isPrefixOf (S.data.toList.drop k)) := hid (fun k h => by
    rw [← pre_cut (by rw [← ZS.out, ← ZQ.out]; exact h), Lib.toList_data, Lib.toList_data, ByteArray.data_extract, Array.toList_extract, List.extract_eq_take_drop, ← ZQ.out, show k + Q.size - k = Q.size from by omega])
  have HS : Hid (∀ k, k + Q.size ≤ S.size → hasB (S.data.toList.drop k) Q.data.toList = (Q.data.toList.isPrefixOf (S.data.toList.drop k) || hasB (S.data.toList.drop (k + 1)) Q.data.toList)) := hid (fun k h => hasB_step (by rw [← ZS.out]; omega))
  have HE : Hid (∀ k, ¬ k + Q.size ≤ S.size → hasB (S.data.toList.drop k) Q.data.toList = false) := hid (fun k h => hasB_short (by rw [List.length_drop, ← ZS.out, ← ZQ.out]; omega))
  generalize Q.data.toList = q at HX HS HE ⊢
  generalize S.data.toList = s at HX HS HE ⊢
  clear ZS ZQ
  go_enter Tryz.func53, Tryz.ntmps53
  go_wp2_with fail
  go_loop [5] (fun t5 => ∃ k : Nat, k ≤ S.size ∧ t5 = .int .i64 k ∧ hasB s q = hasB (s.drop k) q) (fun t5 => S.size + 1 - (intOf t5).toNat)
  case atStart => exact ⟨0, Nat.zero_le _, rfl, rfl⟩
  case round =>
    obtain ⟨k, hk, rfl, hhb⟩ := hrel
    have HH := hid hhb
    clear hhb
    by_cases hlt : k + Q.size ≤ S.size
    · have hx := HX.out k hlt
      cases hp : q.isPrefixOf (s.drop k) with
      | true =>
        rw [hp] at hx
        go_wp2_with fail
        go_ret
        refine ⟨⟨_, rfl, ?_⟩, rfl⟩
        rw [HH.out, HS.out k hlt, hp]
        simp
      | false =>
        rw [hp] at hx
        go_wp2_with fail
        go_round
        case rel => exact ⟨k + 1, by omega, by go_num, by rw [HH.out, HS.out k hlt, hp]; rfl⟩
        case measure => simp [intOf]; omega
    · go_wp2_with fail
      go_ret
      refine ⟨⟨_, rfl, ?_⟩, rfl⟩
      rw [HH.out, HE.out k hlt]
      rfl
theorem zzContains_b (s q : List UInt8) (w : World) (hs : s.length ≤ 1000000) (hq0 : 0 < q.length) (hq : q.length ≤ 1000) :
    Calls Tryz.prog 50 #[.string ⟨s.toArray⟩, .string ⟨q.toArray⟩] w fun e w' => e = .returned (.bool (hasB s q)) ∧ w = w' := by
  have HI := hid (zzIndex_b ⟨s.toArray⟩ ⟨q.toArray⟩ w (by show s.toArray.size ≤ _; simpa using hs) (by show _ < q.toArray.size; simpa using hq0) (by show q.toArray.size ≤ _; simpa using hq))
  rw [show (ByteArray.mk s.toArray).data.toList = s from by simp, show (ByteArray.mk q.toArray).data.toList = q from by simp] at HI
  go_enter Tryz.func50, Tryz.ntmps50
  go_wp2_with fail
  refine HI.out.mono ?_
  rintro e w' ⟨⟨z, rfl, hz⟩, rfl⟩
  go_wp2_with fail
  go_ret
  first
  | exact ⟨rfl, rfl⟩
  | exact ⟨ret_bool hz, rfl⟩
set_option maxRecDepth 20000 in
set_option maxHeartbeats 800000 in
/-- No end tag: no slash behind an angle bracket. -/
theorem endPre_no (s : ByteArray) (w : World) (hs : s.size ≤ 1000000) (h : ∀ i, i < s.size → bt s i = 60 → bt s (i + 1) ≠ 47) :
    Calls Tryz.prog 181 #[.string s] w fun e w' => e = .returned (.bool false) ∧ w = w' := by
  have hb := get_bt s
  have H := hid h
  clear h
  go_enter Tryz.func181, Tryz.ntmps181
  go_wp2_with fail
  go_loop [3] (fun t3 => ∃ i : Nat, i ≤ s.size ∧ t3 = .int .i64 i) (fun t3 => s.size - (intOf t3).toNat)
  case atStart => exact ⟨0, Nat.zero_le _, rfl⟩
  case round =>
    obtain ⟨i, hi, rfl⟩ := hrel
    by_cases hlt : i < s.size
    · by_cases h60 : bt s i = 60
      · have e1 : (bt s i == 60) = true := by simpa using h60
        have e2 : (bt s (i + 1) == 47) = false := by simpa using H.out i hlt h60
        by_cases hlt2 : i + 1 < s.size
        · go_wp2_with fail
          go_round
          case rel => exact ⟨i + 1, by omega, by go_num⟩
          case measure => simp [intOf]; omega
        · go_wp2_with fail
          go_round
          case rel => exact ⟨i + 1, by omega, by go_num⟩
          case measure => simp [intOf]; omega
      · have e1 : (bt s i == 60) = false := by simpa using h60
        go_wp2_with fail
        go_round
        case rel => exact ⟨i + 1, by omega, by go_num⟩
        case measure => simp [intOf]; omega
    · go_wp2_with fail
      go_ret
      exact ⟨rfl, rfl⟩
end Go.Proofs.YtmmijmhdbpldpaaGreatDoor
/- An end tag of some names is found in a text. -/


namespace Go.Proofs.YtmmijmhdbpldpaaGreatDoor
open Go.RowKit
def byteV3 (c : UInt8) : Value := .int .u8 (c.toNat : Int)
theorem conv_row3 {w2 : World} {B g2 cap2 : Nat} {l : List UInt8} (hown : w2.ownsRow B 5 1 (.slice (some ⟨g2, 0, none⟩) l.length cap2) l.length (l.map byteV3)) :
    (convert 56 9 (.slice (some ⟨g2, 0, none⟩) l.length cap2)).run Tryz.prog w2 = .ok (.string ⟨l.toArray⟩) w2 :=
  run_convert_bytes_back (P := Tryz.prog) w2 56 9 5 ⟨g2, 0, none⟩ cap2 l Tryz.underlying56 Tryz.underlying5 Tryz.underlying9 (fun j hj => by
    have := World.ownsRow.cellAt hown j (by simpa using hj)
    rw [List.getElem?_map] at this
    rw [show ((⟨g2, 0, none⟩ : Addr).add j) = ⟨g2, j, none⟩ from by unfold Addr.add; split <;> simp_all]
    rw [List.getElem?_eq_getElem hj] at this
    simpa [byteV3] using this)
def TagR (q : Nat) (lo : List UInt8) (w : World) (t3 t4 : Value) (wr : World) : Prop :=
  ∃ m g cap : Nat, m ≤ lo.length ∧ t3 = .int .i64 ((q + m : Nat) : Int) ∧ t4 = .slice (some ⟨g, 0, none⟩) m cap ∧ wr.ownsRow w.heap.size 5 1 (.slice (some ⟨g, 0, none⟩) m cap) m ((lo.take m).map byteV3) ∧ Below w.heap.size w wr
/-- A letter, and the small one. -/
def LetAt (s : ByteArray) (q : Nat) (lo : List UInt8) : Prop := ∀ m, m < lo.length → ∃ c : UInt8, lo[m]? = some c ∧ 97 ≤ (c.toNat : Int) ∧ (c.toNat : Int) ≤ 122 ∧ (bt s (q + m) = c.toNat ∨ bt s (q + m) + 32 = c.toNat)
theorem tag_take {lo : List UInt8} {m : Nat} {c : UInt8} (h : lo[m]? = some c) : (lo.take (m + 1)).map byteV3 = (lo.take m).map byteV3 ++ [.int .u8 (c.toNat : Int)] := by
  rw [List.take_add_one, h, List.map_append]
  rfl
set_option maxRecDepth 20000 in
set_option maxHeartbeats 1600000 in
theorem endPre_yes (s : ByteArray) (p : Nat) (lo : List UInt8) (w : World) (hs : s.size ≤ 100000) (hp : ∀ i, i < p → bt s i ≠ 60) (h0 : bt s p = 60) (h1 : bt s (p + 1) = 47) (hl : LetAt s (p + 2) lo) (hlen : lo.length < 8) (he : p + 2 + lo.length < s.size) (h62 : bt s (p + 2 + lo.length) = 62)
    (hw : lo = [112, 114, 101] ∨ lo = [115, 99, 114, 105, 112, 116]) :
    Calls Tryz.prog 181 #[.string s] w fun e w' => e = .returned (.bool true) ∧ Below w.heap.size w w' := by
  obtain ⟨is0, his, hsz0, hsz1, hsz2⟩ := info_parts infoU8h
  have hb := get_bt s
  have HP := hid hp
  have HL := hid hl
  have H62 := hid h62
  have HW := hid hw
  have H0 := hid h0
  have H1 := hid h1
  clear hp hl h62 hw h0 h1
  go_enter Tryz.func181, Tryz.ntmps181
  go_wp2_with fail
  go_loopw [3] (fun t3 wr => ∃ i : Nat, i ≤ p ∧ t3 = .int .i64 i ∧ w = wr) (fun t3 _ => s.size - (intOf t3).toNat)
  case atStart => exact ⟨0, Nat.zero_le _, rfl, rfl⟩
  case round =>
    obtain ⟨i, hi, rfl, rfl⟩ := hrel
    by_cases hlt : i < p
    · have e1 : (bt s i == 60) = false := by simpa using HP.out i hlt
      go_wp2_with fail
      go_roundw
      case rel => exact ⟨i + 1, by omega, by go_num, trivial⟩
      case measure => simp [intOf]; omega
    · obtain rfl : i = p := by omega
      have e1 : (bt s i == 60) = true := by simpa using H0.out
      have e2 : (bt s (i + 1) == 47) = true := by simpa using H1.out
      obtain ⟨wm, hmk, hownm, hgrm⟩ := run_make_own (P := Tryz.prog) w w.heap.size 56 5 is0 _ 1 Tryz.underlying56 his hsz0 hsz1 .i64 .i64 8 (by rw [hsz2]; decide) (by unfold maxLen; decide) (Nat.le_refl _)
      have hmk2 : (Instr.makeSlice 56 (.int .i64 0) (.int .i64 8)).run Tryz.prog w = .ok (.slice (some ⟨w.heap.size, 0, none⟩) 0 8) wm := hmk
      have HOM := hid hownm
      have HGM := hid hgrm
      clear hmk hownm hgrm
      go_wp2_with fail
      go_loopw [3, 4] (fun t3 t4 wy => TagR (i + 2) lo w t3 t4 wy) (fun t3 _ _ => s.size + 1 - (intOf t3).toNat)
      case atStart => exact ⟨0, w.heap.size, 8, Nat.zero_le _, by go_num, rfl, HOM.out, (Below.refl _ _).grown HGM.out (Nat.le_refl _) (fun q hq => (nomatch hq))⟩
      case round =>
        obtain ⟨m, g, cap, hm, rfl, rfl, hown, hbel⟩ := hrel
        have HOWN := hid hown
        have HB := hid hbel
        clear hown hbel
        by_cases hml : m < lo.length
        · obtain ⟨c, hc, c1, c2, hcc⟩ := HL.out m hml
          have HC := hid (tag_take hc)
          clear hc
          have hcap : m ≤ 8 := by omega
          have key : ∀ x : Int, x = (c.toNat : Int) → ∀ (va : Value) (wa : World), wa.ownsRow w.heap.size 5 1 va (m + 1) ((lo.map byteV3).take m ++ [.int .u8 x]) → ((wr.alloc (.cells #[.int .u8 x] 5)).grownBy wa (Value.ownBlock (.slice (some ⟨g, 0, none⟩) m cap))) → ∃ ga capa, va = .slice (some ⟨ga, 0, none⟩) (m + 1) capa ∧ wa.ownsRow w.heap.size 5 1 (.slice (some ⟨ga, 0, none⟩) (m + 1) capa) (m + 1) ((lo.take (m + 1)).map byteV3) ∧ Below w.heap.size w wa := fun x hx va wa howna hgra => by
            subst hx
            rw [← List.map_take] at howna
            obtain ⟨ga, capa, rfl, hca⟩ : ∃ ga capa, va = .slice (some ⟨ga, 0, none⟩) (m + 1) capa ∧ m + 1 ≤ capa := by
              rcases howna.2 with ⟨h1, h2⟩ | ⟨g2, cap2, cur, h1, _, _, h2, _⟩
              · exact absurd h2 (by omega)
              · exact ⟨g2, cap2, h1, h2⟩
            exact ⟨ga, capa, rfl, by rw [HC.out]; exact howna, (HB.out.alloc HB.out.size _).grown hgra (by have := HB.out.size; simp; omega) (fun q hq => ownBase HOWN.out hq.symm)⟩
          have HK := hid key
          clear key
          rcases hcc with hcc | hcc
          · have f1 : ¬ bt s (i + 2 + m) ≤ 90 := by omega
            go_wp2_with (at_builtin; refine wpList_append_own_at _ rfl (.tmp 61) (.tmp 63) 56 rfl w.heap.size 5 is0 _ 1 1 Tryz.underlying56 his hsz0 hsz1 hsz2 rfl (by decide) (.slice (some ⟨g, 0, none⟩) m cap) m ((lo.take m).map byteV3) rfl (World.ownsRow.alloc HOWN.out _) ⟨_, 0, none⟩ 1 1 [.int .u8 (c.toNat : Int)] rfl rfl (World.news_of_block (heap_alloc_new _ _)) (by intro v hv; simp at hv; subst hv; rfl) (by unfold maxLen; omega) (by omega) (by have := HB.out.size; simp; omega) ?_)
            intro va wa howna hgra hnila hata
            obtain ⟨ga, capa, rfl, ho, hbe⟩ := HK.out _ rfl va wa howna hgra
            have HO := hid ho
            have HE := hid hbe
            clear howna hgra hnila hata ho hbe
            go_wp2_with fail
            go_roundw
            case rel => exact ⟨m + 1, ga, capa, hml, by go_num, rfl, HO.out, HE.out⟩
            case measure => simp [intOf]; omega
          · have f1 : 65 ≤ bt s (i + 2 + m) := by omega
            have f2 : bt s (i + 2 + m) ≤ 90 := by omega
            go_wp2_with (at_builtin; refine wpList_append_own_at _ rfl (.tmp 61) (.tmp 63) 56 rfl w.heap.size 5 is0 _ 1 1 Tryz.underlying56 his hsz0 hsz1 hsz2 rfl (by decide) (.slice (some ⟨g, 0, none⟩) m cap) m ((lo.take m).map byteV3) rfl (World.ownsRow.alloc HOWN.out _) ⟨_, 0, none⟩ 1 1 [.int .u8 (c.toNat : Int)] rfl rfl (World.news_of_block (heap_alloc_new _ _)) (by intro v hv; simp at hv; subst hv; rfl) (by unfold maxLen; omega) (by omega) (by have := HB.out.size; simp; omega) ?_)
            intro va wa howna hgra hnila hata
            obtain ⟨ga, capa, rfl, ho, hbe⟩ := HK.out _ rfl va wa howna hgra
            have HO := hid ho
            have HE := hid hbe
            clear howna hgra hnila hata ho hbe
            go_wp2_with fail
            go_roundw
            case rel => exact ⟨m + 1, ga, capa, hml, by go_num, rfl, HO.out, HE.out⟩
            case measure => simp [intOf]; omega
        · obtain rfl : m = lo.length := by omega
          have hown := HOWN.out
          rw [List.take_of_length_le (Nat.le_refl _)] at hown
          have hcv := conv_row3 hown
          clear hown
          rcases HW.out with rfl | rfl
          · have f2 : bt s (i + 2 + 3) = 62 := H62.out
            have f1 : (bt s (i + 2 + 3) == 62) = true := by rw [f2]; rfl
            have f3 : i + 2 + 3 < s.size := he
            have f4 : (convert 56 9 (.slice (some ⟨g, 0, none⟩) 3 cap)).run Tryz.prog wr = .ok (.string ⟨#[112, 114, 101]⟩) wr := hcv
            clear hcv
            go_wp2_with fail
            go_ret
            exact ⟨rfl, HB.out⟩
          · have f2 : bt s (i + 2 + 6) = 62 := H62.out
            have f1 : (bt s (i + 2 + 6) == 62) = true := by rw [f2]; rfl
            have f3 : i + 2 + 6 < s.size := he
            have f4 : (convert 56 9 (.slice (some ⟨g, 0, none⟩) 6 cap)).run Tryz.prog wr = .ok (.string ⟨#[115, 99, 114, 105, 112, 116]⟩) wr := hcv
            clear hcv
            go_wp2_with fail
            go_ret
            exact ⟨rfl, HB.out⟩
end Go.Proofs.YtmmijmhdbpldpaaGreatDoor
/- A parse, whatever its lines do; where the texts lie is known when the blocks are closed. -/

namespace Go.Proofs.YtmmijmhdbpldpaaGreatDoor
open Go.RowKit
structure ParseH2 (pb g : Nat) (m : Nat) (Inv : List UInt8 → Nat → World → Prop) (Fin : Option Addr → Nat → World → Prop) (L : Nat) : Prop where
  line : ∀ l n w, Inv l n w → l ≠ [] → l.length ≤ L → (∃ r, IsPS w g r ∧ r.lineno = n) ∧ n + l.length ≤ 1000000 ∧
    Calls Tryz.prog 54 #[.pointer (some ⟨g, 0, none⟩), .agg #[.int .i64 0, .int .i64 0, .int .i64 0, .string ⟨(nextLine l).1.toArray⟩, .int .u8 (nextLine l).2.1]] (w.setCell ⟨g, 3, none⟩ (.int .i64 ((n : Int) + 1)))
      (fun e w' => e = .returned (.tuple #[]) ∧ Inv (nextLine l).2.2 (n + 1) w')
  drew : ∀ l n w k, Inv l n w → Inv l n (w.drewN k)
  trim : ∀ n w, Inv [] n w → Calls Tryz.prog 55 #[.pointer (some ⟨g, 0, none⟩), .int .i64 0] w (fun e w' => e = .returned (.tuple #[]) ∧ ∃ ta, Fin ta 0 w')
  at_ : ∀ ta k w, Fin ta k w → m ≤ 1000000 ∧ ∃ r c, IsPS w g r ∧ r.texts = ⟨ta, m, c⟩ ∧ w.cell? ⟨pb, 2, none⟩ = some (.bool false)
  text : ∀ ta k w, Fin ta k w → k < m → ∃ ab ao tb raw, ta = some ⟨ab, ao, none⟩ ∧ w.cell? ⟨ab, ao + k, none⟩ = some (.pointer (some ⟨tb, 0, none⟩)) ∧ w.cell? ⟨tb, 3, none⟩ = some (.string raw) ∧
    Calls Tryz.prog 56 #[.pointer (some ⟨g, 0, none⟩), .string raw] w (fun e w' => ∃ a n c, e = .returned (.slice a n c) ∧ (∃ v, w'.cell? ⟨tb, 2, none⟩ = some v) ∧ w'.frozen? ⟨tb, 2, none⟩ = false ∧ Fin ta (k + 1) (w'.setCell ⟨tb, 2, none⟩ (.slice a n c)))

def ParseP2 (g m : Nat) (Fin : Option Addr → Nat → World → Prop) (e : Ending) (w' : World) : Prop := ∃ ta r k, e = .returned (.tuple #[.pointer r.root, .bool r.corner]) ∧ IsPS w' g r ∧ ∃ w0, Fin ta m w0 ∧ w' = w0.drewN k

set_option maxRecDepth 20000 in
set_option maxHeartbeats 4000000 in
theorem parse_gen2 (pb : Nat) (l0 : List UInt8) (w : World) (m : Nat) (Inv : List UInt8 → Nat → World → Prop) (Fin : Option Addr → Nat → World → Prop) (hl : l0.length ≤ 1000000)
    (hno : idxB 0 l0 = -1)
    (H : ParseH2 pb w.heap.size m Inv Fin l0.length)
    (h0 : ∀ w' bn, IsPS w' w.heap.size (ps0 pb) → Below w.heap.size w w' →
      Calls Tryz.prog 52 #[.pointer (some ⟨w.heap.size, 0, none⟩), .iface 98 (.pointer (some ⟨bn, 0, none⟩))] w' (fun e w1 => e = .returned (.tuple #[]) ∧ Inv l0 0 w1)) :
    Calls Tryz.prog 43 #[.pointer (some ⟨pb, 0, none⟩), .string ⟨l0.toArray⟩] w (ParseP2 w.heap.size m Fin) := by
  have HH := hid H
  have H0 := hid h0
  clear H h0
  have hno' : (0 ≤ idxB 0 l0) = False := by rw [hno]; simp
  go_enter Tryz.func43, Tryz.ntmps43
  go_wp2_with (first | (go_at_call 50; refine (zzContains1 ⟨l0.toArray⟩ 0 _ (bsz (by omega))).mono ?_; rintro e w' ⟨rfl, rfl⟩))
  go_wp2_with fail
  refine (H0.out _ (w.heap.size + 1) ?_ ?_).mono ?_
  · rw [zero_ps]; exact Blk.alloc (Blk.new _ _ _) _
  · exact ((Below.refl _ _).alloc (Nat.le_refl _) _).alloc (by simp) _
  rintro e w1 ⟨rfl, hinv⟩
  have HI := hid hinv
  clear hinv
  go_wp2_with fail
  go_loopw [1] (fun t wr => LoopR Inv l0.length t wr) (fun t _ => strLen t)
  case atStart => exact ⟨l0, 0, rfl, Nat.le_refl _, HI.out⟩
  case round =>
    obtain ⟨l, n, rfl, hll, hinv⟩ := hrel
    have HV := hid hinv
    clear hinv
    by_cases hnil : l = []
    · subst hnil
      go_wp2_with (go_at_call 55; refine (HH.out.trim n wr HV.out).mono ?_; rintro e w2 ⟨rfl, ta, hfin⟩; have HF := hid hfin; clear hfin; obtain ⟨hm, r, c, hps, htx, hpar⟩ := HH.out.at_ ta 0 w2 HF.out; have c11 := hps.c11; rw [htx] at c11; have HTX := hid htx; clear htx)
      go_loopw [83] (fun i wr => TextR (Fin ta) m i wr) (fun i _ => m - (intOf i).toNat)
      case atStart => exact ⟨0, Nat.zero_le _, rfl, HF.out⟩
      case round =>
        clear c11 hpar hps
        obtain ⟨k, hk, rfl, hfin⟩ := hrel
        obtain ⟨_, r1, c1, hps1, htx1, hpar1⟩ := HH.out.at_ ta k wr hfin
        have HF1 := hid hfin
        have HT1 := hid htx1
        clear hfin htx1
        by_cases hkm : k < m
        · obtain ⟨ab, ao, tb, raw, hta, ca, cb, hc⟩ := HH.out.text ta k wr HF1.out hkm
          subst hta
          have HC := hid hc
          clear hc
          go_wp2_with (go_at_call 56; refine HC.out.mono ?_; rintro e w3 ⟨a3, n3, c3, rfl, ⟨v3, cv3⟩, fv3, hfin3⟩; have HF3 := hid hfin3; clear hfin3)
          go_roundw
          case rel => exact ⟨k + 1, by omega, by go_num, HF3.out⟩
          case measure => simp [intOf]; omega
        · obtain rfl : k = m := by omega
          have c1 := hps1.c1
          have c6 := hps1.c6
          have c0 := hps1.c0
          have HP1 := hid hps1
          clear hps1
          go_wp2
          go_quiet (fail)
          go_wp2
          go_ret2
          exact ⟨ta, r1, _, rfl, HP1.out.drewN _, _, HF1.out, rfl⟩
    · have hne : l.isEmpty = false := by cases l with | nil => exact absurd rfl hnil | cons a b => rfl
      have HNIL := hid hnil
      clear hnil
      go_upto_block 2 with (first | (go_at_call 53; refine (zzIndex1 ⟨l.toArray⟩ _ _ (bsz (by omega))).mono ?_; rintro e w' ⟨rfl, rfl⟩))
      have bi := idxB_lt l 10
      have bj := idxB_lt l 13
      have NL := hid (show nextLine l = _ from rfl)
      go_cut [1, 7, 10] (fun t ln nl wx => CutR l wr t ln nl wx)
      case first =>
        by_cases h1 : 0 ≤ idxB 13 l
        · by_cases h2 : idxB 10 l < 0
          · have HN := hid (show nextLine l = (l.take (idxB 13 l).toNat, 13, l.drop ((idxB 13 l).toNat + 1)) by unfold nextLine; rw [if_pos ⟨h1, .inl h2⟩, if_neg (by omega)])
            have h3 : ¬ idxB 10 l = idxB 13 l + 1 := by omega
            go_wp2
            go_meet
            case rel => exact ⟨by rw [HN.out, show (idxB 13 l + 1).toNat = (idxB 13 l).toNat + 1 from by omega, ex_from], by rw [HN.out, ex_to], by rw [HN.out]; rfl, 0, rfl⟩
          · by_cases h3 : idxB 13 l < idxB 10 l
            · by_cases h4 : idxB 10 l = idxB 13 l + 1
              · have HN := hid (show nextLine l = (l.take (idxB 13 l).toNat, 23, l.drop ((idxB 13 l).toNat + 2)) by unfold nextLine; rw [if_pos ⟨h1, .inr h3⟩, if_pos h4])
                have H4 := hid h4
                have h5 : (idxB 10 l == idxB 13 l + 1) = true := by simpa using h4
                clear h4
                have h6 : idxB 13 l + 2 ≤ l.length := by have := H4.out; omega
                go_wp2
                go_meet
                case rel => exact ⟨by rw [HN.out, show (idxB 13 l + 2).toNat = (idxB 13 l).toNat + 2 from by omega, ex_from], by rw [HN.out, ex_to], by rw [HN.out]; rfl, 0, rfl⟩
              · have HN := hid (show nextLine l = (l.take (idxB 13 l).toNat, 13, l.drop ((idxB 13 l).toNat + 1)) by unfold nextLine; rw [if_pos ⟨h1, .inr h3⟩, if_neg h4])
                go_wp2
                go_meet
                case rel => exact ⟨by rw [HN.out, show (idxB 13 l + 1).toNat = (idxB 13 l).toNat + 1 from by omega, ex_from], by rw [HN.out, ex_to], by rw [HN.out]; rfl, 0, rfl⟩
            · have HN := hid (show nextLine l = (l.take (idxB 10 l).toNat, 10, l.drop ((idxB 10 l).toNat + 1)) by unfold nextLine; rw [if_neg (by omega), if_pos (by omega)])
              go_wp2
              go_quiet (fail)
              go_wp2
              go_meet
              case rel => exact ⟨by rw [HN.out, show (idxB 10 l + 1).toNat = (idxB 10 l).toNat + 1 from by omega, ex_from], by rw [HN.out, ex_to], by rw [HN.out]; rfl, _, rfl⟩
        · by_cases h2 : 0 ≤ idxB 10 l
          · have HN := hid (show nextLine l = (l.take (idxB 10 l).toNat, 10, l.drop ((idxB 10 l).toNat + 1)) by unfold nextLine; rw [if_neg (by omega), if_pos h2])
            go_wp2
            go_quiet (fail)
            go_wp2
            go_meet
            case rel => exact ⟨by rw [HN.out, show (idxB 10 l + 1).toNat = (idxB 10 l).toNat + 1 from by omega, ex_from], by rw [HN.out, ex_to], by rw [HN.out]; rfl, _, rfl⟩
          · have HN := hid (show nextLine l = (l, 0, []) by unfold nextLine; rw [if_neg (by omega), if_neg h2])
            go_wp2
            go_meet
            case rel => exact ⟨by rw [HN.out], by rw [HN.out], by rw [HN.out]; rfl, 0, rfl⟩
      case rest =>
        obtain ⟨rfl, rfl, rfl, k, rfl⟩ := hcut
        obtain ⟨⟨r, hps, hln⟩, hb, hc⟩ := HH.out.line l n _ (HH.out.drew l n wr k HV.out) HNIL.out (by omega)
        have c3 := hps.c3
        rw [hln] at c3
        have f1 := hps.free
        have HC := hid hc
        have NR := nextLine_rest l HNIL.out
        clear hc hln
        go_wp2_with (go_at_call 54; refine HC.out.mono ?_; rintro e w2 ⟨rfl, hinv2⟩; have HI2 := hid hinv2; clear hinv2)
        go_roundw
        case rel => exact ⟨_, n + 1, rfl, by omega, HI2.out⟩
        case measure => show (nextLine l).2.2.toArray.size < l.toArray.size; simpa using NR

end Go.Proofs.YtmmijmhdbpldpaaGreatDoor
/- HTML of inline texts: of a text's list, of a paragraph, of plain texts. -/




namespace Go.Proofs.YtmmijmhdbpldpaaGreatDoor
open Go.RowKit
set_option maxRecDepth 20000 in
set_option maxHeartbeats 1600000 in
theorem textHTML_any (B b d base : Nat) (bs : List UInt8) (sl el : Int) (raw : Value) (inner : Sl) (ys : List Value) (outs : List (List UInt8)) (w : World)
    (hblk : Blk w d 110 #[.int .i64 sl, .int .i64 el, inner.v, raw]) (hrow : w.ownsRow base 132 1 inner.v inner.n ys) (hn : inner.n ≤ 1000000)
    (hbuf : IsBuf B b bs w) (hB : B ≤ w.heap.size) (hlo : outs.length = ys.length) (hp : ∀ (i : Nat) y o, ys[i]? = some y → outs[i]? = some o → Prints w b (bs ++ (outs.take i).flatten) y o) (hl : bs.length + outs.flatten.length ≤ 1000000) :
    Calls Tryz.prog 241 #[.pointer (some ⟨d, 0, none⟩), .pointer (some ⟨b, 0, none⟩)] w (PrintP B b bs outs.flatten w) := by
  have c2 : w.cell? ⟨d, 2, none⟩ = some (.slice inner.a inner.n inner.c) := by rw [hblk.cell]; rfl
  have hlen : ys.length = inner.n := by have := hrow.1; omega
  have hcells : ∀ i y, ys[i]? = some y → ∃ ib, inner.a = some ⟨ib, 0, none⟩ ∧ ∀ wr, Kept b w wr → wr.cell? ⟨ib, i, none⟩ = some y := by
    intro i y hy
    have hi : i < ys.length := (List.getElem?_eq_some_iff.1 hy).1
    rcases hrow.2 with ⟨_, h0⟩ | ⟨ib, cap, cur, h1, h2, hh, h3, h4, h5, h6⟩
    · omega
    · simp only [Sl.v, Value.slice.injEq] at h1
      refine ⟨ib, h1.1, fun wr hk => ?_⟩
      obtain ⟨cs, hcs⟩ := hbuf.blk
      have hne : ib ≠ b := Blk.ne_ (t := 132) hh hcs (by decide)
      have hbk : Blk wr ib 132 cur := Blk.kept hh hk hne (by decide)
      rw [hbk.cell i]
      have e1 : cur.toList[i]? = some y := by
        have : (cur.toList.take ys.length)[i]? = some y := by
          have e2 : cur.toList.take (ys.length) = ys := by rw [hlen]; simpa using h6
          rw [e2]; exact hy
        rw [List.getElem?_take] at this
        rw [if_pos hi] at this
        exact this
      simpa using e1
  have HC := hid hcells
  have HP := hid hp
  have HBUF := hid hbuf
  have HLO := hid hlo
  have HLEN := hid hlen
  clear hcells hp hbuf hlo hlen hrow hblk
  obtain ⟨ia, n, c⟩ := inner
  dsimp only at c2 hn HC HLEN
  by_cases hn0 : n = 0
  · subst hn0
    have ho : outs = [] := List.eq_nil_of_length_eq_zero (by rw [HLO.out, HLEN.out])
    subst ho
    go_enter Tryz.func241, Tryz.ntmps241
    go_wp2
    go_rounds 1
    go_end0
    exact ⟨rfl, by simpa using HBUF.out, Below.refl _ _, Lib.OthersKept.refl _ _ _⟩
  obtain ⟨ib, hia, _⟩ := HC.out 0 _ (List.getElem?_eq_getElem (by rw [HLEN.out]; omega))
  subst hia
  have HC2 : Hid (∀ i y, ys[i]? = some y → ∀ wr, Kept b w wr → wr.cell? ⟨ib, i, none⟩ = some y) := hid (fun i y hy => by
    obtain ⟨ib', h1, h2⟩ := HC.out i y hy
    cases h1
    exact h2)
  clear HC
  go_enter Tryz.func241, Tryz.ntmps241
  go_wp2_with fail
  go_loopw [11] (fun t wr => DocR B b n bs outs w t wr) (fun t _ => n - (intOf t).toNat)
  case atStart => exact ⟨0, Nat.zero_le _, rfl, by simpa using HBUF.out, Below.refl _ _, Lib.OthersKept.refl _ _ _⟩
  case round =>
    obtain ⟨i, hi, rfl, hbf, hbel, hk⟩ := hrel
    by_cases hlt : i < n
    · have hy : i < ys.length := by rw [HLEN.out]; exact hlt
      have ho : i < outs.length := by rw [HLO.out]; exact hy
      have hc := HC2.out i _ (List.getElem?_eq_getElem hy)
      obtain ⟨u, x, f, v, hyv, hm, he, hcall⟩ := HP.out i _ _ (List.getElem?_eq_getElem hy) (List.getElem?_eq_getElem ho)
      have hc' := hc wr hk
      rw [hyv] at hc'
      have htl := take_len outs i
      have htl1 := take_len outs (i + 1)
      have htf := take_flat outs i _ (List.getElem?_eq_getElem ho)
      rw [htf, List.length_append] at htl1
      have HCALL := hid (hcall B wr hk hbf (Nat.le_trans hB hbel.size) (by rw [List.length_append]; omega))
      have HTF := hid htf
      have HK := hid hk
      have HBL := hid hbel
      clear hk hbf hbel hc hyv hcall htf htl htl1
      go_wp2_with fail
      refine HCALL.out.mono ?_
      rintro e w1 ⟨rfl, hb1, hbl1, hk1⟩
      have HB1 := hid hb1
      have HBL1 := hid hbl1
      have HK1 := hid hk1
      clear hb1 hbl1 hk1
      go_wp2_with fail
      go_roundw
      case rel => exact ⟨i + 1, by omega, by go_num, by rw [HTF.out, ← List.append_assoc]; exact HB1.out, HBL.out.trans HBL1.out, Lib.OthersKept.trans HK.out HK1.out⟩
      case measure => simp [intOf]; omega
    · obtain rfl : i = n := by omega
      have ht : outs.take i = outs := List.take_of_length_le (by rw [HLO.out, HLEN.out]; exact Nat.le_refl _)
      rw [ht] at hbf
      have HBF := hid hbf
      have HBL := hid hbel
      have HK := hid hk
      clear hbf hbel hk ht
      go_wp2_with fail
      go_end0
      exact ⟨rfl, HBF.out, HBL.out, HK.out⟩
/-- A plain text, printed (its block may hold more behind the text). -/
theorem plainHTML_gen {ty : TypeId} {cs : Array Value} (B b pb : Nat) (bs : List UInt8) (s : ByteArray) (w : World) (hblk : Blk w pb ty cs) (h0 : cs[0]? = some (.string s)) (hbuf : IsBuf B b bs w) (hB : B ≤ w.heap.size) (hs : s.size ≤ 100000) (hl : bs.length ≤ 1000000) :
    Calls Tryz.prog 254 #[.pointer (some ⟨pb, 0, none⟩), .pointer (some ⟨b, 0, none⟩)] w (PrintP B b bs (esc s.data.toList) w) := by
  have c0 := hblk.at_ 0 h0
  have HBLK := hid hblk
  have HBUF := hid hbuf
  have H0 := hid h0
  have hg := hblk.lt
  clear hblk hbuf h0
  go_enter Tryz.func254, Tryz.ntmps254
  go_region_law (first
    | (go_simp; go_at_call 257; refine (htmlEscaper_any _).mono ?_; rintro e w4 ⟨n4, rfl, hn4, hp4, hb4⟩; have c0' := Blk.at_ (Blk.mod (w := World.drew w) (S := fun _ => False) HBLK.out (Mod.below' hb4) (fun x => x)) 0 H0.out)
    | (go_simp; go_at_call 258; refine (pairs_write B b n4 bs s _ hp4 (IsBuf.old (w := World.drew w) HBUF.out hb4) (Nat.le_trans hB hb4.size) hs hl).mono ?_; rintro e w5 ⟨rfl, hi5, hb5, hk5⟩))
  all_goals go_wp2
  all_goals go_end0
  all_goals exact ⟨rfl, hi5, ((below_drewN (Below.refl B w) 1).trans (hb4.mono hB)).trans hb5, (show Kept b (World.drew w) w5 from Lib.OthersKept.trans (Lib.OthersKept.below (Lib.OthersKept.refl _ _ (World.drew w)) hb4) hk5)⟩
theorem plainHTML_any {ty : TypeId} (B b pb : Nat) (bs : List UInt8) (s : ByteArray) (w : World) (hblk : Blk w pb ty #[.string s]) (hbuf : IsBuf B b bs w) (hB : B ≤ w.heap.size) (hs : s.size ≤ 100000) (hl : bs.length ≤ 1000000) :
    Calls Tryz.prog 254 #[.pointer (some ⟨pb, 0, none⟩), .pointer (some ⟨b, 0, none⟩)] w (PrintP B b bs (esc s.data.toList) w) := plainHTML_gen B b pb bs s w hblk rfl hbuf hB hs hl
/-- What an inline text prints, wherever it lies. -/
def KPrints (k : Kind) (out : List UInt8) : Prop := ∀ (w : World) (B0 b : Nat) (bs : List UInt8) (v : Value), IsItem w B0 v k → w.heap.size ≤ b → Prints w b bs v out
theorem plain_kprints (l : List UInt8) (hl : l.length ≤ 100000) : KPrints (plainK l) (esc l) := by
  rintro w B0 b bs v ⟨pb, rfl, hblk, _⟩ hb
  refine ⟨_, _, 254, .pointer (some ⟨pb, 0, none⟩), rfl, fun W => by kernel_rfl, Go.Proofs.enters_of Tryz.func254 (by kernel_rfl) rfl, fun B W hk hbf hB hlen => ?_⟩
  have hblk' : Blk W pb 137 #[.string ⟨l.toArray⟩] := hblk.kept hk (by have := hblk.lt; omega) (by decide : (137 : Nat) ≠ 5)
  exact plainHTML_any B b pb bs ⟨l.toArray⟩ W hblk' hbf hB (by show l.toArray.size ≤ 100000; rw [List.size_toArray]; exact hl) (by omega)
end Go.Proofs.YtmmijmhdbpldpaaGreatDoor
