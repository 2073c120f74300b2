/- Indented code: the starter takes its first line; the builder takes the further ones, and builds. -/
import Derived.Test.YtohokfbjmfjjaaaGreatDoorDone2
import Derived.Test.YtohokfbjmfjjaaaGreatDoorTop
import Derived.Test.YtohokfbjmfjjaaaGreatDoorClose
import Derived.Test.YtohokfbjmfjjaaaGreatDoorBlank
import Derived.Deep.RegionLaw
import Derived.Deep.AppendLies
namespace Go.Proofs.YtohokfbjmfjjaaaGreatDoor
open Go.RowKit
theorem infoStr : (Tryz.prog.info? 9).map (fun i => (i.zero, i.size, i.bytes)) = some (some (.string ⟨#[]⟩), 1, 16) := by kernel_rfl
def strV (l : List UInt8) : Value := .string ⟨l.toArray⟩
/-- A builder of indented code, and its lines. -/
def IsPre (w : World) (B pb : Nat) (v : Sl) (ls : List Value) : Prop := Blk w pb 232 #[.string ⟨#[]⟩, v.v] ∧ w.ownsRow B 9 1 v.v v.n ls ∧ B ≤ pb
def crn (c : Bool) (nl : Int) : Bool := c || !(nl == 10)
def PreP (B g : Nat) (r : PSr) (e0 : Ent) (txt : ByteArray) (nl : Int) (w w' : World) : Prop :=
  ∃ st pb v, IsPS w' g { r with stack := st, corner := crn r.corner nl } ∧ IsStack w' B st ([] ++ [e0] ++ [⟨230, .pointer (some ⟨pb, 0, none⟩), Sl.nil, r.lineno, r.lineno⟩]) ∧ IsPre w' B pb v [.string txt] ∧
    (∀ k, st.v.ownBlock = some k → r.stack.v.ownBlock = some k ∨ w.heap.size ≤ k) ∧ Mod (fun k => k = g ∨ some k = r.stack.v.ownBlock) w w'
set_option maxRecDepth 20000 in
set_option maxHeartbeats 4000000 in
theorem newPre_yes (B g : Nat) (r : PSr) (e0 : Ent) (p : Option Addr) (tb nl : Int) (s : ByteArray) (w : World) (hB : B ≤ w.heap.size) (hps : IsPS w g r) (hst : IsStack w B r.stack ([] ++ [e0])) (hd : r.lineDepth = 0) (hb1 : e0.bt = 70) (hb2 : e0.bv = .pointer p)
    (hs : s.size ≤ 1000000) (ht : ∀ k, bt s k ≠ 9) (h4 : ∀ k, k < 4 → bt s k = 32) (hsz : 4 ≤ s.size) (hink : (trimL (s.data.toList.drop 4)).isEmpty = false) :
    Calls Tryz.prog 64 #[.pointer (some ⟨g, 0, none⟩), lnV 0 tb s nl] w fun e w' => e = .returned (.tuple #[lnV 0 0 ⟨#[]⟩ 0, .bool true]) ∧ PreP B g r e0 (s.extract 4 s.size) nl w w' ∧ w.heap.size ≤ w'.heap.size ∧ ∀ lb cs, Blk w lb 76 cs → Blk w' lb 76 cs := by
  obtain ⟨is0, his, hsz0, hsz1, hsz2⟩ := info_parts infoStr
  have HT := hid ht
  have H4 := hid h4
  have HINK := hid hink
  have HPS := hid hps
  have HST := hid hst
  have HD := hid hd
  clear ht h4 hink hps hst hd
  go_enter Tryz.func64, Tryz.ntmps64
  go_wp2_with fail
  refine (para_top B g r [] e0 p _ (((HPS.out.alloc _).alloc _).alloc _) (((HST.out.alloc _).alloc _).alloc _) (by simp) hb1 hb2).mono ?_
  rintro e w1 ⟨rfl, n1, rfl⟩
  go_wp2_with fail
  refine (trimSp_any _ 0 4 4 false tb nl s _ (Blk.drewN (Blk.new' (by simp)) n1) (by omega) (Nat.zero_le _) HT.out (by omega) (by omega)).mono ?_
  rintro e w2 ⟨j, a1, a2, a3, a4, a5, a6, hm⟩
  rcases a6 with ⟨rfl, _, hln⟩ | ⟨_, a7, _, _, _⟩
  case inr =>
    exact absurd (H4.out j (by omega)) (a5 (by omega) (by omega))
  have hj : j = 4 := by
    rcases Nat.lt_or_ge j 4 with h | h
    · exact absurd (H4.out j h) (a5 (by omega) (by omega))
    · omega
  subst hj
  have hgl := HPS.out.lt
  have hps2 : IsPS w2 g r := ((((HPS.out.alloc _).alloc _).alloc _).drewN n1).mod hm (by show ¬ (g = w.heap.size + 1 + 1); omega)
  have hst2 : IsStack w2 B r.stack ([] ++ [e0]) := ((((HST.out.alloc _).alloc _).alloc _).drewN n1).mod hm (fun k hk e => by have := own_lt HST.out.2 hk.symm; omega)
  have hr2 : Blk w2 (w.heap.size + 1) 76 #[.int .i64 0, .int .i64 0, .int .i64 0, .string ⟨#[]⟩, .int .u8 0] := (Blk.drewN (Blk.alloc (Blk.new' (by simp)) _) n1 : Blk _ (w.heap.size + 1) 76 #[.int .i64 0, .int .i64 0, .int .i64 0, .string ⟨#[]⟩, .int .u8 0]).mod hm (by show ¬ (w.heap.size + 1 = w.heap.size + 1 + 1); omega)
  have hb2 : Below w.heap.size w w2 := (below_drewN ((((Below.refl _ _).alloc (Nat.le_refl _) _).alloc (by simp) _).alloc (by simp; omega) _) n1).trans (Mod.toBelow hm (by simp; omega) (fun k hk h => by omega))
  have HPS2 := hid hps2
  have HST2 := hid hst2
  have HR2 := hid hr2
  have HB2 := hid hb2
  have HLN := hid hln
  clear hps2 hst2 hr2 hb2 hln hm a4 a5
  go_wp2_with fail
  refine (isBlank_any (w.heap.size + 1 + 1) s 4 _ (by omega) (by omega) HLN.out.c1 HLN.out.c3).mono ?_
  rintro e w3 ⟨rfl, n2, rfl⟩
  rw [HINK.out]
  have hpA : Hid (IsPS (w2.drewN n2) g r) := hid HPS2.out
  have hsA : Hid (IsStack (w2.drewN n2) B r.stack ([] ++ [e0])) := hid HST2.out
  have hrA : Hid (Blk (w2.drewN n2) (w.heap.size + 1) 76 #[.int .i64 0, .int .i64 0, .int .i64 0, .string ⟨#[]⟩, .int .u8 0]) := hid HR2.out
  have hlA : Hid (IsLn (w2.drewN n2) (w.heap.size + 1 + 1) 4 tb s nl) := hid HLN.out
  have hbA : Hid (Below w.heap.size w (w2.drewN n2)) := hid (below_drewN HB2.out n2)
  clear HPS2 HST2 HR2 HB2 HLN
  generalize World.drewN w2 n2 = wa at hpA hsA hrA hlA hbA ⊢
  have hlt6 := Blk.lt hlA.out
  go_wp2_with fail
  refine (addBlock_top B g r ([] ++ [e0]) _ _ _ (by have := hbA.out.size; simp; omega) (hpA.out.alloc _) (hsA.out.alloc _) (by rw [HD.out]; rfl) (by simp)).mono ?_
  rintro e w3 ⟨rfl, st, hps3, hst3, hown3, hm3⟩
  have hpre3 : Blk w3 wa.heap.size 232 #[.string ⟨#[]⟩, .slice none 0 0] := (Blk.new wa 232 #[.string ⟨#[]⟩, .slice none 0 0]).mod hm3 (fun h => Or.elim h (fun e => by have := hpA.out.lt; omega) (fun e => by have := own_lt hsA.out.2 e; omega))
  have hl3 : IsLn w3 (w.heap.size + 1 + 1) 4 tb s nl := (Blk.alloc hlA.out _).mod hm3 (fun h => Or.elim h (Blk.ne_ hlA.out hpA.out (by decide)) (own_ne hsA.out.2 hlA.out (by decide)))
  have hr3 : Blk w3 (w.heap.size + 1) 76 #[.int .i64 0, .int .i64 0, .int .i64 0, .string ⟨#[]⟩, .int .u8 0] := (Blk.alloc hrA.out _).mod hm3 (fun h => Or.elim h (Blk.ne_ hrA.out hpA.out (by decide)) (own_ne hsA.out.2 hrA.out (by decide)))
  have hmA : Mod (fun k => k = g ∨ some k = r.stack.v.ownBlock) w w3 := ((Mod.below' hbA.out).alloc _).trans hm3 (fun _ _ h => h)
  have c6 := hps3.c6
  have f6 := hps3.free
  have l4 := hl3.c4
  have p1 := hpre3.at_ 1 rfl
  have HP3 := hid hps3
  have HS3 := hid hst3
  have HO3 := hid hown3
  have HPR := hid hpre3
  have HL3 := hid hl3
  have HR3 := hid hr3
  have HMA := hid hmA
  clear hps3 hst3 hown3 hm3 hpre3 hl3 hr3 hmA
  go_wp2_with fail
  · have hcr : crn r.corner nl = true := by simp [crn, *]
    have hps4 : Hid (IsPS (w3.setCell ⟨g, 6, none⟩ (.bool true)) g { r with stack := st, corner := crn r.corner nl }) := hid (by rw [hcr]; exact HP3.out.set6 true)
    have hst4 : Hid (IsStack (w3.setCell ⟨g, 6, none⟩ (.bool true)) B st ([] ++ [e0] ++ [⟨230, .pointer (some ⟨wa.heap.size, 0, none⟩), Sl.nil, r.lineno, r.lineno⟩])) := hid (HS3.out.far (p := ⟨g, 6, none⟩) (own_ne HS3.out.2 HP3.out (by decide)) _)
    have hpr4 : Hid (Blk (w3.setCell ⟨g, 6, none⟩ (.bool true)) wa.heap.size 232 #[.string ⟨#[]⟩, .slice none 0 0]) := hid (HPR.out.far (p := ⟨g, 6, none⟩) (Blk.ne_ HPR.out HP3.out (by decide)) _)
    have hl4 : Hid (IsLn (w3.setCell ⟨g, 6, none⟩ (.bool true)) (w.heap.size + 1 + 1) 4 tb s nl) := hid (Blk.far HL3.out (p := ⟨g, 6, none⟩) (Blk.ne_ HL3.out HP3.out (by decide)) _)
    have hr4 : Hid (Blk (w3.setCell ⟨g, 6, none⟩ (.bool true)) (w.heap.size + 1) 76 #[.int .i64 0, .int .i64 0, .int .i64 0, .string ⟨#[]⟩, .int .u8 0]) := hid (HR3.out.far (p := ⟨g, 6, none⟩) (Blk.ne_ HR3.out HP3.out (by decide)) _)
    have hmB : Hid (Mod (fun k => k = g ∨ some k = r.stack.v.ownBlock) w (w3.setCell ⟨g, 6, none⟩ (.bool true))) := hid (HMA.out.setCell (.inl (.inl rfl)) _)
    have hsz4 : Hid (wa.heap.size < (w3.setCell ⟨g, 6, none⟩ (.bool true)).heap.size) := hid (Blk.lt hpr4.out)
    clear c6 f6 l4 p1
    generalize World.setCell w3 ⟨g, 6, none⟩ (.bool true) = wb at hps4 hst4 hpr4 hl4 hr4 hmB hsz4 ⊢
    have p1 := hpr4.out.at_ 1 rfl
    have fp := hpr4.out.free
    have p2 : ∀ k o, ((wb.drewN k).alloc o).cell? ⟨wa.heap.size, 1, none⟩ = some (.slice none 0 0) := fun k o => (Blk.alloc (w := wb.drewN k) hpr4.out o).at_ 1 rfl
    have hBb : B ≤ wb.heap.size := by have := hsz4.out; have := hbA.out.size; omega
    go_region_law (first
      | (go_simp; go_at_call 100; refine (string_any (w.heap.size + 1 + 1) 4 tb nl s _ ?_ (by omega) (by omega)).mono ?_; (· exact hl4.out); rintro e w5 ⟨rfl, n5, rfl⟩)
      | (refine step_append_lies _ rfl (.tmp 41) (.tmp 43) 29 (by rfl) B 9 is0 _ 1 16 Tryz.underlying29 his hsz0 hsz1 hsz2 rfl (by decide) (.slice none 0 0) 0 [] (by rfl) (World.ownsRow_nil _ _ _ _) ⟨wb.heap.size, 0, none⟩ 1 1 [.string (s.extract 4 s.size)] (by rfl) rfl (World.news_of_block (heap_alloc_new _ _)) (by intro v hv; simp at hv; subst hv; rfl) (by omega) (by unfold maxLen; omega) (by omega) (by simp; omega) (wb.heap.size + 1) (by simp) ?_
         intro g2 cap2 w4 hown4 hgr4 hat4 hlt4
         have hp4 : Blk w4 wa.heap.size 232 #[.string ⟨#[]⟩, .slice none 0 0] := Blk.grown (Blk.alloc (w := World.drewN wb _) hpr4.out _) hgr4 (by simp [Value.ownBlock])
         have q1 := hp4.at_ 1 rfl
         have fq := hp4.free))
    all_goals
      have m4 : Mod (fun _ => False) wb w4 := Mod.grown ((Mod.drewN (Mod.refl _ wb) _).alloc _) hgr4 (fun k hk => by simp [Value.ownBlock] at hk)
      have hps5 := (hps4.out.mod m4 (fun h => h)).far (p := ⟨wa.heap.size, 1, none⟩) (Blk.ne_ hps4.out hpr4.out (by decide)) (.slice (some ⟨g2, 0, none⟩) 1 cap2)
      have hst5 := (hst4.out.mod m4 (fun _ _ h => h)).far (p := ⟨wa.heap.size, 1, none⟩) (own_ne hst4.out.2 hpr4.out (by decide)) (.slice (some ⟨g2, 0, none⟩) 1 cap2)
      have hr5 := (hr4.out.mod m4 (fun h => h)).far (p := ⟨wa.heap.size, 1, none⟩) (Blk.ne_ hr4.out hpr4.out (by decide)) (.slice (some ⟨g2, 0, none⟩) 1 cap2)
      have hpre5 : Blk (w4.setCell ⟨wa.heap.size, 1, none⟩ (.slice (some ⟨g2, 0, none⟩) 1 cap2)) wa.heap.size 232 #[.string ⟨#[]⟩, .slice (some ⟨g2, 0, none⟩) 1 cap2] := by simpa using Blk.set_ hp4 1 (.slice (some ⟨g2, 0, none⟩) 1 cap2)
      have hown5 := own_far hown4 (p := ⟨wa.heap.size, 1, none⟩) (own_ne hown4 hp4 (by decide)) (.slice (some ⟨g2, 0, none⟩) 1 cap2)
      have m5 := (m4.mono (S' := fun k => k = wa.heap.size) (fun _ _ h => h.elim)).setCell (p := ⟨wa.heap.size, 1, none⟩) (.inl rfl) (.slice (some ⟨g2, 0, none⟩) 1 cap2)
      have HP5 := hid hps5
      have HS5 := hid hst5
      have HR5 := hid hr5
      have HPR5 := hid hpre5
      have HO5 := hid hown5
      have HM5 := hid m5
      clear m4 hps5 hst5 hr5 hpre5 hown5 m5 hown4 hgr4 hat4 hp4 q1 fq p1 p2 fp
      generalize World.setCell w4 ⟨wa.heap.size, 1, none⟩ _ = wc at HP5 HS5 HR5 HPR5 HO5 HM5 ⊢
      have hr6 := HR5.out
      have r0 := hr6.at_ 0 rfl
      have r1 := hr6.at_ 1 rfl
      have r2 := hr6.at_ 2 rfl
      have r3 := hr6.at_ 3 rfl
      have r4 := hr6.at_ 4 rfl
      have fr := hr6.free
      clear hr6
      go_wp2_with fail
      have hln := hid (line_zero HR5.out)
      have hmy : Hid (Mod (fun k => k = w.heap.size + 1) wc _) := hid ((((((Mod.refl (fun k => k = w.heap.size + 1) wc).setCell (p := ⟨w.heap.size + 1, 0, none⟩) (.inl rfl) (.int .i64 0)).setCell (p := ⟨w.heap.size + 1, 1, none⟩) (.inl rfl) (.int .i64 0)).setCell (p := ⟨w.heap.size + 1, 2, none⟩) (.inl rfl) (.int .i64 0)).setCell (p := ⟨w.heap.size + 1, 3, none⟩) (.inl rfl) (.string ⟨#[]⟩)).setCell (p := ⟨w.heap.size + 1, 4, none⟩) (.inl rfl) (.int .u8 0))
      generalize World.setCell _ ⟨w.heap.size + 1, 4, none⟩ _ = wy at hln hmy ⊢
      clear r0 r1 r2 r3 r4 fr
      have hl4 := hln.out
      have k0 := hl4.at_ 0 rfl
      have k1 := hl4.at_ 1 rfl
      have k2 := hl4.at_ 2 rfl
      have k3 := hl4.at_ 3 rfl
      have k4 := hl4.at_ 4 rfl
      clear hl4
      refine bodyPost_ret (by simp [results, Tryz.results64, go_sem, k0, k1, k2, k3, k4]; try rfl) rfl ?_
      have hwa : w.heap.size ≤ wa.heap.size := hbA.out.size
      have hmf : Mod (fun k => k = g ∨ some k = r.stack.v.ownBlock) w wy := (hmB.out.trans HM5.out (fun k hk e => by omega)).trans hmy.out (fun k hk e => by omega)
      refine ⟨rfl, ⟨st, wa.heap.size, ⟨some ⟨g2, 0, none⟩, 1, cap2⟩, HP5.out.mod hmy.out (Blk.ne_ HP5.out HR5.out (by decide)), HS5.out.mod hmy.out (fun k hk e => own_ne HS5.out.2 HR5.out (by decide) (by rw [hk, e])), ⟨HPR5.out.mod hmy.out (Blk.ne_ HPR5.out HR5.out (by decide)), own_mod HO5.out hmy.out (fun k hk e => own_ne HO5.out HR5.out (by decide) (by rw [hk, e])), Nat.le_trans hB hwa⟩, ?_, hmf⟩, hmf.size, fun lb cs h => h.mod hmf (fun e => Or.elim e (Blk.ne_ h HPS.out (by decide)) (own_ne HST.out.2 h (by decide)))⟩
      intro k hk
      rcases HO3.out k hk with h | h
      · exact .inl h
      · exact .inr (Nat.le_trans hwa (Nat.le_trans (by simp) h))
  · have hcr : crn r.corner nl = (nl != 10) := by simp only [crn, *]; rfl
    have hps4 : Hid (IsPS (w3.setCell ⟨g, 6, none⟩ (.bool (nl != 10))) g { r with stack := st, corner := crn r.corner nl }) := hid (by rw [hcr]; exact HP3.out.set6 (nl != 10))
    have hst4 : Hid (IsStack (w3.setCell ⟨g, 6, none⟩ (.bool (nl != 10))) B st ([] ++ [e0] ++ [⟨230, .pointer (some ⟨wa.heap.size, 0, none⟩), Sl.nil, r.lineno, r.lineno⟩])) := hid (HS3.out.far (p := ⟨g, 6, none⟩) (own_ne HS3.out.2 HP3.out (by decide)) _)
    have hpr4 : Hid (Blk (w3.setCell ⟨g, 6, none⟩ (.bool (nl != 10))) wa.heap.size 232 #[.string ⟨#[]⟩, .slice none 0 0]) := hid (HPR.out.far (p := ⟨g, 6, none⟩) (Blk.ne_ HPR.out HP3.out (by decide)) _)
    have hl4 : Hid (IsLn (w3.setCell ⟨g, 6, none⟩ (.bool (nl != 10))) (w.heap.size + 1 + 1) 4 tb s nl) := hid (Blk.far HL3.out (p := ⟨g, 6, none⟩) (Blk.ne_ HL3.out HP3.out (by decide)) _)
    have hr4 : Hid (Blk (w3.setCell ⟨g, 6, none⟩ (.bool (nl != 10))) (w.heap.size + 1) 76 #[.int .i64 0, .int .i64 0, .int .i64 0, .string ⟨#[]⟩, .int .u8 0]) := hid (HR3.out.far (p := ⟨g, 6, none⟩) (Blk.ne_ HR3.out HP3.out (by decide)) _)
    have hmB : Hid (Mod (fun k => k = g ∨ some k = r.stack.v.ownBlock) w (w3.setCell ⟨g, 6, none⟩ (.bool (nl != 10)))) := hid (HMA.out.setCell (.inl (.inl rfl)) _)
    have hsz4 : Hid (wa.heap.size < (w3.setCell ⟨g, 6, none⟩ (.bool (nl != 10))).heap.size) := hid (Blk.lt hpr4.out)
    clear c6 f6 l4 p1
    generalize World.setCell w3 ⟨g, 6, none⟩ (.bool (nl != 10)) = wb at hps4 hst4 hpr4 hl4 hr4 hmB hsz4 ⊢
    have p1 := hpr4.out.at_ 1 rfl
    have fp := hpr4.out.free
    have p2 : ∀ k o, ((wb.drewN k).alloc o).cell? ⟨wa.heap.size, 1, none⟩ = some (.slice none 0 0) := fun k o => (Blk.alloc (w := wb.drewN k) hpr4.out o).at_ 1 rfl
    have hBb : B ≤ wb.heap.size := by have := hsz4.out; have := hbA.out.size; omega
    go_region_law (first
      | (go_simp; go_at_call 100; refine (string_any (w.heap.size + 1 + 1) 4 tb nl s _ ?_ (by omega) (by omega)).mono ?_; (· exact hl4.out); rintro e w5 ⟨rfl, n5, rfl⟩)
      | (refine step_append_lies _ rfl (.tmp 41) (.tmp 43) 29 (by rfl) B 9 is0 _ 1 16 Tryz.underlying29 his hsz0 hsz1 hsz2 rfl (by decide) (.slice none 0 0) 0 [] (by rfl) (World.ownsRow_nil _ _ _ _) ⟨wb.heap.size, 0, none⟩ 1 1 [.string (s.extract 4 s.size)] (by rfl) rfl (World.news_of_block (heap_alloc_new _ _)) (by intro v hv; simp at hv; subst hv; rfl) (by omega) (by unfold maxLen; omega) (by omega) (by simp; omega) (wb.heap.size + 1) (by simp) ?_
         intro g2 cap2 w4 hown4 hgr4 hat4 hlt4
         have hp4 : Blk w4 wa.heap.size 232 #[.string ⟨#[]⟩, .slice none 0 0] := Blk.grown (Blk.alloc (w := World.drewN wb _) hpr4.out _) hgr4 (by simp [Value.ownBlock])
         have q1 := hp4.at_ 1 rfl
         have fq := hp4.free))
    all_goals
      have m4 : Mod (fun _ => False) wb w4 := Mod.grown ((Mod.drewN (Mod.refl _ wb) _).alloc _) hgr4 (fun k hk => by simp [Value.ownBlock] at hk)
      have hps5 := (hps4.out.mod m4 (fun h => h)).far (p := ⟨wa.heap.size, 1, none⟩) (Blk.ne_ hps4.out hpr4.out (by decide)) (.slice (some ⟨g2, 0, none⟩) 1 cap2)
      have hst5 := (hst4.out.mod m4 (fun _ _ h => h)).far (p := ⟨wa.heap.size, 1, none⟩) (own_ne hst4.out.2 hpr4.out (by decide)) (.slice (some ⟨g2, 0, none⟩) 1 cap2)
      have hr5 := (hr4.out.mod m4 (fun h => h)).far (p := ⟨wa.heap.size, 1, none⟩) (Blk.ne_ hr4.out hpr4.out (by decide)) (.slice (some ⟨g2, 0, none⟩) 1 cap2)
      have hpre5 : Blk (w4.setCell ⟨wa.heap.size, 1, none⟩ (.slice (some ⟨g2, 0, none⟩) 1 cap2)) wa.heap.size 232 #[.string ⟨#[]⟩, .slice (some ⟨g2, 0, none⟩) 1 cap2] := by simpa using Blk.set_ hp4 1 (.slice (some ⟨g2, 0, none⟩) 1 cap2)
      have hown5 := own_far hown4 (p := ⟨wa.heap.size, 1, none⟩) (own_ne hown4 hp4 (by decide)) (.slice (some ⟨g2, 0, none⟩) 1 cap2)
      have m5 := (m4.mono (S' := fun k => k = wa.heap.size) (fun _ _ h => h.elim)).setCell (p := ⟨wa.heap.size, 1, none⟩) (.inl rfl) (.slice (some ⟨g2, 0, none⟩) 1 cap2)
      have HP5 := hid hps5
      have HS5 := hid hst5
      have HR5 := hid hr5
      have HPR5 := hid hpre5
      have HO5 := hid hown5
      have HM5 := hid m5
      clear m4 hps5 hst5 hr5 hpre5 hown5 m5 hown4 hgr4 hat4 hp4 q1 fq p1 p2 fp
      generalize World.setCell w4 ⟨wa.heap.size, 1, none⟩ _ = wc at HP5 HS5 HR5 HPR5 HO5 HM5 ⊢
      have hr6 := HR5.out
      have r0 := hr6.at_ 0 rfl
      have r1 := hr6.at_ 1 rfl
      have r2 := hr6.at_ 2 rfl
      have r3 := hr6.at_ 3 rfl
      have r4 := hr6.at_ 4 rfl
      have fr := hr6.free
      clear hr6
      go_wp2_with fail
      have hln := hid (line_zero HR5.out)
      have hmy : Hid (Mod (fun k => k = w.heap.size + 1) wc _) := hid ((((((Mod.refl (fun k => k = w.heap.size + 1) wc).setCell (p := ⟨w.heap.size + 1, 0, none⟩) (.inl rfl) (.int .i64 0)).setCell (p := ⟨w.heap.size + 1, 1, none⟩) (.inl rfl) (.int .i64 0)).setCell (p := ⟨w.heap.size + 1, 2, none⟩) (.inl rfl) (.int .i64 0)).setCell (p := ⟨w.heap.size + 1, 3, none⟩) (.inl rfl) (.string ⟨#[]⟩)).setCell (p := ⟨w.heap.size + 1, 4, none⟩) (.inl rfl) (.int .u8 0))
      generalize World.setCell _ ⟨w.heap.size + 1, 4, none⟩ _ = wy at hln hmy ⊢
      clear r0 r1 r2 r3 r4 fr
      have hl4 := hln.out
      have k0 := hl4.at_ 0 rfl
      have k1 := hl4.at_ 1 rfl
      have k2 := hl4.at_ 2 rfl
      have k3 := hl4.at_ 3 rfl
      have k4 := hl4.at_ 4 rfl
      clear hl4
      refine bodyPost_ret (by simp [results, Tryz.results64, go_sem, k0, k1, k2, k3, k4]; try rfl) rfl ?_
      have hwa : w.heap.size ≤ wa.heap.size := hbA.out.size
      have hmf : Mod (fun k => k = g ∨ some k = r.stack.v.ownBlock) w wy := (hmB.out.trans HM5.out (fun k hk e => by omega)).trans hmy.out (fun k hk e => by omega)
      refine ⟨rfl, ⟨st, wa.heap.size, ⟨some ⟨g2, 0, none⟩, 1, cap2⟩, HP5.out.mod hmy.out (Blk.ne_ HP5.out HR5.out (by decide)), HS5.out.mod hmy.out (fun k hk e => own_ne HS5.out.2 HR5.out (by decide) (by rw [hk, e])), ⟨HPR5.out.mod hmy.out (Blk.ne_ HPR5.out HR5.out (by decide)), own_mod HO5.out hmy.out (fun k hk e => own_ne HO5.out HR5.out (by decide) (by rw [hk, e])), Nat.le_trans hB hwa⟩, ?_, hmf⟩, hmf.size, fun lb cs h => h.mod hmf (fun e => Or.elim e (Blk.ne_ h HPS.out (by decide)) (own_ne HST.out.2 h (by decide)))⟩
      intro k hk
      rcases HO3.out k hk with h | h
      · exact .inl h
      · exact .inr (Nat.le_trans hwa (Nat.le_trans (by simp) h))
end Go.Proofs.YtohokfbjmfjjaaaGreatDoor
