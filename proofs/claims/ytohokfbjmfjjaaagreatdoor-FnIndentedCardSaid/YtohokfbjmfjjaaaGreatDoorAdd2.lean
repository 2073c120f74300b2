/- A further line of indented code. -/
import Derived.Test.YtohokfbjmfjjaaaGreatDoorPre2
import Derived.StillTailTactics
namespace Go.Proofs.YtohokfbjmfjjaaaGreatDoor
open Go.RowKit
theorem pre_ext_via (pb : Nat) (W : World) : (method 468 230 (.pointer (some ⟨pb, 0, none⟩)) "pub-paratext/pub/rscmarkdown.extend").run Tryz.prog W = .ok (319, .pointer (some ⟨pb, 0, none⟩)) W := by kernel_rfl
theorem cell5_far {w : World} {b : Nat} {p : Addr} (h : b ≠ p.block) (a0 a1 a2 a3 a4 : Value) : (((((w.setCell ⟨b, 0, none⟩ a0).setCell ⟨b, 1, none⟩ a1).setCell ⟨b, 2, none⟩ a2).setCell ⟨b, 3, none⟩ a3).setCell ⟨b, 4, none⟩ a4).cell? p = w.cell? p := by
  rw [World.cell?_setCell_far _ _ _ _ h, World.cell?_setCell_far _ _ _ _ h, World.cell?_setCell_far _ _ _ _ h, World.cell?_setCell_far _ _ _ _ h, World.cell?_setCell_far _ _ _ _ h]
theorem stack_ne2 {w : World} {B : Nat} {s : Sl} {es : List Ent} {g : Nat} {r : PSr} (h : IsStack w B s es) (hg : IsPS w g r) : some g ≠ s.v.ownBlock := own_ne h.2 hg (by decide)
theorem own_apart {w : World} {base base2 : Nat} {e e2 : TypeId} {size size2 n n2 : Nat} {v v2 : Value} {xs ys : List Value} (h : w.ownsRow base e size v n xs) (h2 : w.ownsRow base2 e2 size2 v2 n2 ys) (hne : e ≠ e2) {k : Nat} (hk : v.ownBlock = some k) : v2.ownBlock ≠ some k := by
  intro hk2
  rcases h.2 with ⟨rfl, _⟩ | ⟨g', cap, cur, rfl, _, hh, _⟩
  · simp [Value.ownBlock] at hk
  · rcases h2.2 with ⟨rfl, _⟩ | ⟨g2, cap2, cur2, rfl, _, hh2, _⟩
    · simp [Value.ownBlock] at hk2
    · simp only [Value.ownBlock, Option.some.injEq] at hk hk2
      subst hk
      subst hk2
      exact Blk.ne_ (t := e) hh hh2 hne rfl
theorem own_base {w : World} {base : Nat} {e : TypeId} {size n : Nat} {v : Value} {xs : List Value} (h : w.ownsRow base e size v n xs) {k : Nat} (hk : some k = v.ownBlock) : base ≤ k := by
  rcases h.2 with ⟨rfl, _⟩ | ⟨g', cap, cur, rfl, hb, _⟩
  · simp [Value.ownBlock] at hk
  · simp only [Value.ownBlock, Option.some.injEq] at hk
    omega
def preE (pb : Nat) (sl el : Int) : Ent := ⟨230, .pointer (some ⟨pb, 0, none⟩), Sl.nil, sl, el⟩
def PreLineP (B g pb : Nat) (r : PSr) (e0 : Ent) (v : Sl) (ls : List Value) (sl : Int) (txt : ByteArray) (nl : Int) (w w' : World) : Prop :=
  ∃ v' el, v'.n = v.n + 1 ∧ IsPS w' g { r with lineDepth := 1, corner := crn r.corner nl } ∧ IsStack w' B r.stack ([] ++ [e0] ++ [preE pb sl el]) ∧ IsPre w' B pb v' (ls ++ [.string txt]) ∧ Mod (fun k => g ≤ k) w w'
/-- Where the builder has taken the line. -/
def PreCut (B g pb lb : Nat) (r : PSr) (e0 : Ent) (v : Sl) (ls : List Value) (sl el : Int) (txt s : ByteArray) (nl : Int) (wa : World) (t5 : Value) (wx : World) : Prop :=
  t5 = .bool true ∧ ∃ v' : Sl, v'.n = v.n + 1 ∧ IsPS wx g { r with lineDepth := 0, corner := crn r.corner nl } ∧ IsStack wx B r.stack ([] ++ [e0] ++ [preE pb sl el]) ∧ IsPre wx B pb v' (ls ++ [.string txt]) ∧
    Blk wx lb 76 #[.int .i64 0, .int .i64 0, .int .i64 0, .string ⟨#[]⟩, .int .u8 0] ∧ Blk wx (lb + 1) 76 #[.int .i64 0, .int .i64 0, .int .i64 0, .string s, .int .u8 nl] ∧ Mod (fun k => k = g ∨ k = pb ∨ some k = v.v.ownBlock ∨ k = lb) wa wx
theorem preCut_mk {B g pb lb : Nat} {r : PSr} {e0 : Ent} {v v' : Sl} {ls : List Value} {sl el : Int} {txt s : ByteArray} {nl : Int} {wa w3 : World} {a0 a1 a2 a3 a4 : Value} (hS : IsStack wa B r.stack ([] ++ [e0] ++ [preE pb sl el])) (hPr : IsPre wa B pb v ls) (hP : IsPS wa g { r with lineDepth := 0 })
    (hv' : v'.n = v.n + 1) (hp3 : IsPS w3 g { r with lineDepth := 0, corner := crn r.corner nl }) (hpr3 : IsPre w3 B pb v' (ls ++ [.string txt])) (hm3 : Mod (fun k => k = g ∨ k = pb ∨ some k = v.v.ownBlock) wa.drew w3)
    (hz3 : Blk w3 lb 76 #[a0, a1, a2, a3, a4]) (hold : Blk w3 (lb + 1) 76 #[.int .i64 0, .int .i64 0, .int .i64 0, .string s, .int .u8 nl]) :
    PreCut B g pb lb r e0 v ls sl el txt s nl wa (.bool true) (((((w3.setCell ⟨lb, 0, none⟩ (.int .i64 0)).setCell ⟨lb, 1, none⟩ (.int .i64 0)).setCell ⟨lb, 2, none⟩ (.int .i64 0)).setCell ⟨lb, 3, none⟩ (.string ⟨#[]⟩)).setCell ⟨lb, 4, none⟩ (.int .u8 0)) := by
  have hs3 : IsStack w3 B r.stack ([] ++ [e0] ++ [preE pb sl el]) := IsStack.mod (w := wa.drew) hS hm3 (fun k hk e => by
    rcases e with e | e | e
    · subst e; exact stack_ne2 hS hP hk.symm
    · subst e; exact own_ne hS.2 hPr.1 (by decide) hk.symm
    · exact own_apart hS.2 hPr.2.1 (by decide) hk e.symm)
  have my : Mod (fun k => k = lb) w3 (((((w3.setCell ⟨lb, 0, none⟩ (.int .i64 0)).setCell ⟨lb, 1, none⟩ (.int .i64 0)).setCell ⟨lb, 2, none⟩ (.int .i64 0)).setCell ⟨lb, 3, none⟩ (.string ⟨#[]⟩)).setCell ⟨lb, 4, none⟩ (.int .u8 0)) :=
    (((((Mod.refl (fun k => k = lb) w3).setCell (p := ⟨lb, 0, none⟩) (.inl rfl) _).setCell (p := ⟨lb, 1, none⟩) (.inl rfl) _).setCell (p := ⟨lb, 2, none⟩) (.inl rfl) _).setCell (p := ⟨lb, 3, none⟩) (.inl rfl) _).setCell (p := ⟨lb, 4, none⟩) (.inl rfl) _
  refine ⟨rfl, v', hv', hp3.mod my (Blk.ne_ hp3 hz3 (by decide)), hs3.mod my (fun k hk e => by subst e; exact own_ne hs3.2 hz3 (by decide) hk.symm), ⟨hpr3.1.mod my (Blk.ne_ hpr3.1 hz3 (by decide)), own_mod hpr3.2.1 my (fun k hk e => by subst e; exact own_ne hpr3.2.1 hz3 (by decide) hk.symm), hpr3.2.2⟩, line_zero hz3, hold.mod my (by show ¬ (lb + 1 = lb); omega), ?_⟩
  have h0 : Mod (fun k => k = g ∨ k = pb ∨ some k = v.v.ownBlock ∨ k = lb) wa w3 := ((Mod.refl _ wa).drew).trans hm3 (fun k _ h => by
    rcases h with h | h | h
    · exact .inl h
    · exact .inr (.inl h)
    · exact .inr (.inr (.inl h)))
  exact h0.trans my (fun k _ h => .inr (.inr (.inr h)))
set_option maxRecDepth 20000 in
set_option maxHeartbeats 8000000 in
theorem addLine_pre (B g pb j0 : Nat) (r : PSr) (e0 : Ent) (v : Sl) (ls : List Value) (sl el nl : Int) (s : ByteArray) (w : World) (hgB : g < B) (hB : B ≤ w.heap.size) (hps : IsPS w g r) (hst : IsStack w B r.stack ([] ++ [e0] ++ [preE pb sl el])) (hpre : IsPre w B pb v ls) (hvn : v.n ≤ 1000)
    (hs : s.size ≤ 1000000) (ht : ∀ k, bt s k ≠ 9) (hj1 : ∀ k, k < j0 → bt s k = 32) (hj2 : j0 ≤ s.size) (hj3 : j0 = 4 ∨ (j0 = s.size ∧ j0 < 4)) :
    Calls Tryz.prog 27 #[.pointer (some ⟨g, 0, none⟩), lnV 0 0 s nl] w fun e w' => e = .returned (.tuple #[]) ∧ PreLineP B g pb r e0 v ls sl (s.extract j0 s.size) nl w w' := by
  have hg := hps.lt
  obtain ⟨sb, cap, hv, hcap, hfr, hob, hsb, hBs, k0, k1, k2, k3⟩ := hst.top
  have hsn : r.stack.n = 2 := by rw [hv]; simp
  have c5 := hps.c5
  have c4 := hps.c4
  rw [hv] at c4
  have f1 := hps.free
  have hgn : ¬ g = w.heap.size := by omega
  have hgs : g ≠ sb := by obtain ⟨cs, hcs⟩ := IsStack.blk (hv ▸ hst); exact Blk.ne_ hps hcs (by decide)
  have hsg : sb ≠ g := fun e => hgs e.symm
  simp only [List.length_append, List.length_cons, List.length_nil, Nat.zero_add] at k0 k1 k2 k3 hcap c4
  dsimp only [preE] at k0
  have hm := pre_ext_via pb
  have HPS := hid hps
  have HST := hid hst
  have HPRE := hid hpre
  have HV := hid hv
  have HOB := hid hob
  have HT := hid ht
  have HJ := hid hj1
  clear hps hst hpre hv hob ht hj1 k1 k2 k3
  go_enter Tryz.func27, Tryz.ntmps27
  go_wp2_with fail
  go_step3
  go_wp2_with fail
  refine wp_loop_rounds 2 ?_
  rw [rounds_succ]
  go_wp2_with fail
  go_quiet (fail)
  go_wp2_with fail
  have hP : Hid (IsPS (World.alloc _ _) g { r with lineDepth := 0 }) := hid ((((HPS.out.set5 0).alloc (.cells #[.int .i64 0, .int .i64 0, .int .i64 0, .string s, .int .u8 nl] 76)).drewN nq).alloc (.cells #[.int .i64 0, .int .i64 0, .int .i64 0, .string s, .int .u8 nl] 76))
  have hM : Hid (Mod (fun k => k = g) w (World.alloc _ _)) := hid (((((Mod.refl (fun k => k = g) w).setCell (p := ⟨g, 5, none⟩) (.inl rfl) (.int .i64 0)).alloc (.cells #[.int .i64 0, .int .i64 0, .int .i64 0, .string s, .int .u8 nl] 76)).drewN nq).alloc (.cells #[.int .i64 0, .int .i64 0, .int .i64 0, .string s, .int .u8 nl] 76))
  have hL3 : Hid (Blk (World.alloc _ _) w.heap.size 76 #[.int .i64 0, .int .i64 0, .int .i64 0, .string s, .int .u8 nl]) := hid (((Blk.new' (w := w.setCell ⟨g, 5, none⟩ (.int .i64 0)) (by simp [World.setCell])).drewN nq).alloc (.cells #[.int .i64 0, .int .i64 0, .int .i64 0, .string s, .int .u8 nl] 76))
  have hL4 : Hid (Blk (World.alloc _ _) (w.heap.size + 1) 76 #[.int .i64 0, .int .i64 0, .int .i64 0, .string s, .int .u8 nl]) := hid (Blk.new' (w := World.drewN (World.alloc (w.setCell ⟨g, 5, none⟩ (.int .i64 0)) (.cells #[.int .i64 0, .int .i64 0, .int .i64 0, .string s, .int .u8 nl] 76)) nq) (by simp [World.setCell]))
  clear c4 c5 f1
  generalize World.alloc _ _ = wa at hP hM hL3 hL4 ⊢
  have hS : Hid (IsStack wa B r.stack ([] ++ [e0] ++ [preE pb sl el])) := hid (HST.out.mod hM.out (fun k hk e => by subst e; exact stack_ne2 HST.out HPS.out hk.symm))
  have hPr : Hid (IsPre wa B pb v ls) := hid ⟨HPRE.out.1.mod hM.out (Blk.ne_ HPRE.out.1 HPS.out (by decide)), own_mod HPRE.out.2.1 hM.out (fun k hk e => by subst e; exact own_ne HPRE.out.2.1 HPS.out (by decide) hk.symm), HPRE.out.2.2⟩
  have q4 : wa.cell? ⟨g, 4, none⟩ = some (.slice (some ⟨sb, 0, none⟩) 2 cap) := by rw [hP.out.c4, show ({ r with lineDepth := 0 } : PSr).stack = r.stack from rfl, HV.out]; simp
  have q5 : wa.cell? ⟨g, 5, none⟩ = some (.int .i64 0) := hP.out.c5
  have q0 : wa.cell? ⟨sb, 4, none⟩ = some (.iface 230 (.pointer (some ⟨pb, 0, none⟩))) := (hM.out.cell (p := ⟨sb, 4, none⟩) hsb hsg).trans (by simpa using k0)
  have l3 := hL3.out
  have b0 := l3.at_ 0 rfl
  have b1 := l3.at_ 1 rfl
  have b2 := l3.at_ 2 rfl
  have b3 := l3.at_ 3 rfl
  have b4 := l3.at_ 4 rfl
  have fb := l3.free
  have hw1 : w.heap.size ≠ g := fun e => hgn e.symm
  have hw2 : w.heap.size ≠ sb := by omega
  have x4 : wa.drew.cell? ⟨g, 4, none⟩ = some (.slice (some ⟨sb, 0, none⟩) 2 cap) := q4
  have x5 : wa.drew.cell? ⟨g, 5, none⟩ = some (.int .i64 0) := q5
  have x0 : wa.drew.cell? ⟨sb, 4, none⟩ = some (.iface 230 (.pointer (some ⟨pb, 0, none⟩))) := q0
  clear l3 k0
  go_cut [5] (fun t5 wx => PreCut B g pb w.heap.size r e0 v ls sl el (s.extract j0 s.size) s nl wa t5 wx)
  case first =>
    go_region_with (first
        | (go_at_call 319; refine (pre_extend B g pb j0 { r with lineDepth := 0 } v ls nl s _ ?_ ?_ ?_ hvn hs HT.out HJ.out hj2 hj3).mono ?_; (· exact Nat.le_trans hB hM.out.size); (· exact hP.out); (· exact hPr.out); rintro e w3 ⟨rfl, ⟨v', hv', hp3, hpr3, hm3⟩, hk3⟩
           have hz3 := hk3 _ _ (show Blk wa.drew w.heap.size 76 _ from hL3.out)
           have hold := hk3 _ _ (show Blk wa.drew (w.heap.size + 1) 76 _ from hL4.out)
           have z0 := hz3.at_ 0 rfl
           have z1 := hz3.at_ 1 rfl
           have z2 := hz3.at_ 2 rfl
           have z3 := hz3.at_ 3 rfl
           have z4 := hz3.at_ 4 rfl
           have fz := hz3.free))
    all_goals go_wp2
    all_goals go_meet
    all_goals exact preCut_mk hS.out hPr.out hP.out hv' hp3 hpr3 hm3 hz3 hold
  case rest =>
    obtain ⟨rfl, v', hv', hp4, hs4, hpr4, hl4, ho4, hm4⟩ := hcut
    clear q4 q5 q0 x4 x5 x0 b0 b1 b2 b3 b4 fb
    have HP4 := hid hp4
    have HS4 := hid hs4
    have HPR4 := hid hpr4
    have HL4 := hid hl4
    have HO4 := hid ho4
    have HM4 := hid hm4
    clear hp4 hs4 hpr4 hl4 ho4 hm4
    have hsn2 := hsn
    cases hbl : (trimL s.data.toList).isEmpty with
    | true =>
      go_wp2_with fail
      refine (isBlank_any (w.heap.size + 1) s 0 _ (Nat.zero_le _) (by omega) (HO4.out.at_ 1 rfl) (HO4.out.at_ 3 rfl)).mono ?_
      rintro e w5 ⟨rfl, n5, rfl⟩
      rw [List.drop_zero, hbl]
      have c5 := (HP4.out.drewN n5).c5
      have f5 := (HP4.out.drewN n5).free
      go_wp2_with fail
      have hPd : Hid (IsPS (World.setCell (wc.drewN n5) ⟨g, 5, none⟩ (.int .i64 1)) g { r with lineDepth := 1, corner := crn r.corner nl }) := hid ((HP4.out.drewN n5).set5 1)
      have hSd : Hid (IsStack (World.setCell (wc.drewN n5) ⟨g, 5, none⟩ (.int .i64 1)) B r.stack ([] ++ [e0] ++ [preE pb sl el])) := hid (IsStack.far (show IsStack (wc.drewN n5) B r.stack _ from HS4.out) (p := ⟨g, 5, none⟩) (by intro hk; exact own_ne HS4.out.2 HP4.out (by decide) hk) _)
      have hRd : Hid (IsPre (World.setCell (wc.drewN n5) ⟨g, 5, none⟩ (.int .i64 1)) B pb v' (ls ++ [.string (s.extract j0 s.size)])) := hid ⟨Blk.far (show IsPre (wc.drewN n5) B pb v' _ from HPR4.out).1 (p := ⟨g, 5, none⟩) (Blk.ne_ HPR4.out.1 HP4.out (by decide)) _, own_far (show IsPre (wc.drewN n5) B pb v' _ from HPR4.out).2.1 (p := ⟨g, 5, none⟩) (by intro hk; exact own_ne HPR4.out.2.1 HP4.out (by decide) hk) _, (show IsPre (wc.drewN n5) B pb v' _ from HPR4.out).2.2⟩
      have hLd : Hid (Blk (World.setCell (wc.drewN n5) ⟨g, 5, none⟩ (.int .i64 1)) w.heap.size 76 #[.int .i64 0, .int .i64 0, .int .i64 0, .string ⟨#[]⟩, .int .u8 0]) := hid (Blk.far (Blk.drewN HL4.out n5) (p := ⟨g, 5, none⟩) hw1 _)
      have hMd : Hid (Mod (fun k => k = g ∨ k = pb ∨ some k = v.v.ownBlock ∨ k = w.heap.size ∨ some k = r.stack.v.ownBlock) wa (World.setCell (wc.drewN n5) ⟨g, 5, none⟩ (.int .i64 1))) := hid (Mod.setCell ((HM4.out.mono (S' := fun k => k = g ∨ k = pb ∨ some k = v.v.ownBlock ∨ k = w.heap.size ∨ some k = r.stack.v.ownBlock) (fun k _ h => Or.elim h .inl (fun h => .inr (Or.elim h .inl (fun h => .inr (Or.elim h .inl (fun h => .inr (.inl h)))))))).drewN n5) (p := ⟨g, 5, none⟩) (.inl (.inl rfl)) _)
      clear c5 f5
      generalize World.setCell _ ⟨g, 5, none⟩ _ = wd at hPd hSd hRd hLd hMd ⊢
      have z4 : wd.cell? ⟨g, 4, none⟩ = some (.slice (some ⟨sb, 0, none⟩) 2 cap) := by rw [hPd.out.c4, show ({ r with lineDepth := 1, corner := crn r.corner nl } : PSr).stack = r.stack from rfl, HV.out]; simp
      have z5 : wd.cell? ⟨g, 5, none⟩ = some (.int .i64 1) := hPd.out.c5
      rw [rounds_succ]
      go_wp2_with fail
      go_quiet (fail)
      go_wp2_with fail
      refine (isBlank_any w.heap.size ⟨#[]⟩ 0 _ (Nat.zero_le _) (by simp [ByteArray.size]) ((hLd.out.drewN _).at_ 1 rfl) ((hLd.out.drewN _).at_ 3 rfl)).mono ?_
      rintro e w6 ⟨rfl, n6, rfl⟩
      have hE : (trimL (List.drop 0 (ByteArray.mk #[]).data.toList)).isEmpty = true := rfl
      rw [hE]
      go_wp2_with fail
      refine (trimStack_none g { r with lineDepth := 1, corner := crn r.corner nl } _ _ ?_ ?_).mono ?_
      · exact hPd.out
      · rw [hsn]; rfl
      rintro e w7 ⟨rfl, rfl⟩
      go_wp2_with fail
      all_goals (try rw [Exit.noGoto_ret])
      go_returns
      have hfin : Mod (fun k => g ≤ k) w wd := (hM.out.mono (S' := fun k => g ≤ k) (fun k _ e => by omega)).trans hMd.out (fun k hk e => by
        rcases e with e | e | e | e | e
        · omega
        · have := HPRE.out.2.2; omega
        · have := own_base HPRE.out.2.1 e; omega
        · omega
        · have := own_base HST.out.2 e; omega)
      exact ⟨rfl, v', el, hv', hPd.out, hSd.out, hRd.out, hfin.drewN _⟩
    | false =>
      go_wp2_with fail
      refine (isBlank_any (w.heap.size + 1) s 0 _ (Nat.zero_le _) (by omega) (HO4.out.at_ 1 rfl) (HO4.out.at_ 3 rfl)).mono ?_
      rintro e w5 ⟨rfl, n5, rfl⟩
      rw [List.drop_zero, hbl]
      have c5 := (HP4.out.drewN n5).c5
      have f5 := (HP4.out.drewN n5).free
      go_wp2_with fail
      have s4 : wc.cell? ⟨g, 4, none⟩ = some (.slice (some ⟨sb, 0, none⟩) 2 cap) := by rw [HP4.out.c4, show ({ r with lineDepth := 0, corner := crn r.corner nl } : PSr).stack = r.stack from rfl, HV.out]; simp
      have s3 := HP4.out.c3
      clear c5 f5
      have c5 := HP4.out.c5
      have f5 := HP4.out.free
      obtain ⟨sbx, capx, hvx, _, hfx, _, _, _, _, _, _, y3⟩ := HS4.out.top
      rw [HV.out] at hvx
      simp only [Sl.mk.injEq, Option.some.injEq, Addr.mk.injEq] at hvx
      obtain ⟨⟨rfl, _⟩, _⟩ := hvx
      have e3 : wc.cell? ⟨sb, 7, none⟩ = some (.int .i64 el) := by simpa [preE] using y3
      have ef : ∀ j, wc.frozen? ⟨sb, j, none⟩ = false := hfx
      go_region
      have hPe : Hid (IsPS ((wc.drewN (n5 + 1)).setCell ⟨sb, 7, none⟩ (.int .i64 r.lineno)) g { r with lineDepth := 0, corner := crn r.corner nl }) := hid ((HP4.out.drewN (n5 + 1)).far (p := ⟨sb, 7, none⟩) hgs _)
      have hSe : Hid (IsStack ((wc.drewN (n5 + 1)).setCell ⟨sb, 7, none⟩ (.int .i64 r.lineno)) B r.stack ([] ++ [e0] ++ [preE pb sl r.lineno])) := hid ⟨HS4.out.1, by
        have s0 := World.ownsRow.drewN HS4.out.2 (n5 + 1)
        rw [HV.out] at s0 ⊢
        have s1 := (s0.stored 7 (.int .i64 r.lineno)).1
        simpa [Ent.cells, preE] using s1⟩
      have hRe : Hid (IsPre ((wc.drewN (n5 + 1)).setCell ⟨sb, 7, none⟩ (.int .i64 r.lineno)) B pb v' (ls ++ [.string (s.extract j0 s.size)])) := hid (by
        obtain ⟨cs, hcs⟩ := IsStack.blk (HV.out ▸ HS4.out)
        exact ⟨(Blk.drewN HPR4.out.1 (n5 + 1)).far (p := ⟨sb, 7, none⟩) (Blk.ne_ HPR4.out.1 hcs (by decide)) _, own_far (World.ownsRow.drewN HPR4.out.2.1 (n5 + 1)) (p := ⟨sb, 7, none⟩) (own_ne HPR4.out.2.1 hcs (by decide)) _, HPR4.out.2.2⟩)
      have hLe : Hid (Blk ((wc.drewN (n5 + 1)).setCell ⟨sb, 7, none⟩ (.int .i64 r.lineno)) w.heap.size 76 #[.int .i64 0, .int .i64 0, .int .i64 0, .string ⟨#[]⟩, .int .u8 0]) := hid ((Blk.drewN HL4.out (n5 + 1)).far (p := ⟨sb, 7, none⟩) hw2 _)
      have hMe : Hid (Mod (fun k => k = g ∨ k = pb ∨ some k = v.v.ownBlock ∨ k = w.heap.size ∨ some k = r.stack.v.ownBlock) wa ((wc.drewN (n5 + 1)).setCell ⟨sb, 7, none⟩ (.int .i64 r.lineno))) := hid (((HM4.out.mono (S' := fun k => k = g ∨ k = pb ∨ some k = v.v.ownBlock ∨ k = w.heap.size ∨ some k = r.stack.v.ownBlock) (fun k _ h => Or.elim h .inl (fun h => .inr (Or.elim h .inl (fun h => .inr (Or.elim h .inl (fun h => .inr (.inl h)))))))).drewN (n5 + 1)).setCell (p := ⟨sb, 7, none⟩) (.inl (.inr (.inr (.inr (.inr (by rw [HOB.out])))))) _)
      clear s4 s3 y3 e3 ef hfx c5 f5
      generalize World.setCell _ ⟨sb, 7, none⟩ _ = we at hPe hSe hRe hLe hMe ⊢
      have c5 := hPe.out.c5
      have f5 := hPe.out.free
      go_wp2_with fail
      have hPd : Hid (IsPS (World.setCell we ⟨g, 5, none⟩ (.int .i64 1)) g { r with lineDepth := 1, corner := crn r.corner nl }) := hid (hPe.out.set5 1)
      have hSd : Hid (IsStack (World.setCell we ⟨g, 5, none⟩ (.int .i64 1)) B r.stack ([] ++ [e0] ++ [preE pb sl r.lineno])) := hid (IsStack.far hSe.out (p := ⟨g, 5, none⟩) (by intro hk; exact own_ne HS4.out.2 HP4.out (by decide) hk) _)
      have hRd : Hid (IsPre (World.setCell we ⟨g, 5, none⟩ (.int .i64 1)) B pb v' (ls ++ [.string (s.extract j0 s.size)])) := hid ⟨Blk.far hRe.out.1 (p := ⟨g, 5, none⟩) (Blk.ne_ HPR4.out.1 HP4.out (by decide)) _, own_far hRe.out.2.1 (p := ⟨g, 5, none⟩) (by intro hk; exact own_ne HPR4.out.2.1 HP4.out (by decide) hk) _, hRe.out.2.2⟩
      have hLd : Hid (Blk (World.setCell we ⟨g, 5, none⟩ (.int .i64 1)) w.heap.size 76 #[.int .i64 0, .int .i64 0, .int .i64 0, .string ⟨#[]⟩, .int .u8 0]) := hid (Blk.far hLe.out (p := ⟨g, 5, none⟩) hw1 _)
      have hMd : Hid (Mod (fun k => k = g ∨ k = pb ∨ some k = v.v.ownBlock ∨ k = w.heap.size ∨ some k = r.stack.v.ownBlock) wa (World.setCell we ⟨g, 5, none⟩ (.int .i64 1))) := hid (Mod.setCell hMe.out (p := ⟨g, 5, none⟩) (.inl (.inl rfl)) _)
      clear c5 f5
      generalize World.setCell _ ⟨g, 5, none⟩ _ = wd at hPd hSd hRd hLd hMd ⊢
      have z4 : wd.cell? ⟨g, 4, none⟩ = some (.slice (some ⟨sb, 0, none⟩) 2 cap) := by rw [hPd.out.c4, show ({ r with lineDepth := 1, corner := crn r.corner nl } : PSr).stack = r.stack from rfl, HV.out]; simp
      have z5 : wd.cell? ⟨g, 5, none⟩ = some (.int .i64 1) := hPd.out.c5
      rw [rounds_succ]
      go_wp2_with fail
      go_quiet (fail)
      go_wp2_with fail
      refine (isBlank_any w.heap.size ⟨#[]⟩ 0 _ (Nat.zero_le _) (by simp [ByteArray.size]) ((hLd.out.drewN _).at_ 1 rfl) ((hLd.out.drewN _).at_ 3 rfl)).mono ?_
      rintro e w6 ⟨rfl, n6, rfl⟩
      have hE : (trimL (List.drop 0 (ByteArray.mk #[]).data.toList)).isEmpty = true := rfl
      rw [hE]
      go_wp2_with fail
      refine (trimStack_none g { r with lineDepth := 1, corner := crn r.corner nl } _ _ ?_ ?_).mono ?_
      · exact hPd.out
      · rw [hsn]; rfl
      rintro e w7 ⟨rfl, rfl⟩
      go_wp2_with fail
      all_goals (try rw [Exit.noGoto_ret])
      go_returns
      have hfin : Mod (fun k => g ≤ k) w wd := (hM.out.mono (S' := fun k => g ≤ k) (fun k _ e => by omega)).trans hMd.out (fun k hk e => by
        rcases e with e | e | e | e | e
        · omega
        · have := HPRE.out.2.2; omega
        · have := own_base HPRE.out.2.1 e; omega
        · omega
        · have := own_base HST.out.2 e; omega)
      exact ⟨rfl, v', r.lineno, hv', hPd.out, hSd.out, hRd.out, hfin.drewN _⟩
end Go.Proofs.YtohokfbjmfjjaaaGreatDoor
