/- Indented code: its builder takes a further line. -/
import Derived.Test.YtohokfbjmfjjaaaGreatDoorPre
namespace Go.Proofs.YtohokfbjmfjjaaaGreatDoor
open Go.RowKit
def ExtP (B g pb : Nat) (r : PSr) (v : Sl) (ls : List Value) (txt : ByteArray) (nl : Int) (w w' : World) : Prop :=
  ∃ v' : Sl, v'.n = v.n + 1 ∧ IsPS w' g { r with corner := crn r.corner nl } ∧ IsPre w' B pb v' (ls ++ [.string txt]) ∧ Mod (fun k => k = g ∨ k = pb ∨ some k = v.v.ownBlock) w w'
set_option maxRecDepth 20000 in
set_option maxHeartbeats 8000000 in
theorem pre_extend (B g pb j0 : Nat) (r : PSr) (v : Sl) (ls : List Value) (nl : Int) (s : ByteArray) (w : World) (hB : B ≤ w.heap.size) (hps : IsPS w g r) (hpre : IsPre w B pb v ls) (hvn : v.n ≤ 1000)
    (hs : s.size ≤ 1000000) (ht : ∀ k, bt s k ≠ 9) (hj1 : ∀ k, k < j0 → bt s k = 32) (hj2 : j0 ≤ s.size) (hj3 : j0 = 4 ∨ (j0 = s.size ∧ j0 < 4)) :
    Calls Tryz.prog 319 #[.pointer (some ⟨pb, 0, none⟩), .pointer (some ⟨g, 0, none⟩), lnV 0 0 s nl] w fun e w' => e = .returned (.tuple #[lnV 0 0 ⟨#[]⟩ 0, .bool true]) ∧ ExtP B g pb r v ls (s.extract j0 s.size) nl w w' ∧ ∀ lb cs, Blk w lb 76 cs → Blk w' lb 76 cs := by
  obtain ⟨is0, his, hsz0, hsz1, hsz2⟩ := info_parts infoStr
  obtain ⟨va, vn, vc⟩ := v
  dsimp only at hvn
  obtain ⟨hpr, hrow, hBp⟩ := hpre
  have HT := hid ht
  have HJ1 := hid hj1
  have HPS := hid hps
  have HPR := hid hpr
  have HROW := hid hrow
  clear ht hj1 hps hpr hrow
  go_enter Tryz.func319, Tryz.ntmps319
  go_wp2_with fail
  refine (trimSp_any _ 0 4 4 true 0 nl s _ (Blk.alloc (Blk.new' rfl) _) (by omega) (Nat.zero_le _) HT.out (by omega) (by omega)).mono ?_
  rintro e w2 ⟨j, a1, a2, a3, a4, a5, a6, hm⟩
  have hjj : j = j0 := by
    rcases Nat.lt_trichotomy j j0 with h | h | h
    · exact absurd (HJ1.out j h) (a5 (by omega) (by omega))
    · exact h
    · rcases hj3 with h1 | h1 <;> omega
  subst hjj
  rcases a6 with ⟨rfl, _, hln⟩ | ⟨_, a7, _, a9, _⟩
  case inr =>
    exfalso
    rcases a9 with h | h
    · cases h
    · omega
  have hgl := HPS.out.lt
  have hpl := Blk.lt HPR.out
  have hps2 : IsPS w2 g r := ((HPS.out.alloc _).alloc _).mod hm (by show ¬ (g = w.heap.size); omega)
  have hpr2 : Blk w2 pb 232 #[.string ⟨#[]⟩, .slice va vn vc] := ((HPR.out.alloc _).alloc _).mod hm (by show ¬ (pb = w.heap.size); omega)
  have hrow2 : w2.ownsRow B 9 1 (.slice va vn vc) vn ls := own_mod (World.ownsRow.alloc (World.ownsRow.alloc HROW.out _) _) hm (fun k hk e => by have := own_lt HROW.out hk.symm; omega)
  have hr2 : Blk w2 (w.heap.size + 1) 76 #[.int .i64 0, .int .i64 0, .int .i64 0, .string ⟨#[]⟩, .int .u8 0] := (Blk.new' (by simp) : Blk _ (w.heap.size + 1) 76 #[.int .i64 0, .int .i64 0, .int .i64 0, .string ⟨#[]⟩, .int .u8 0]).mod hm (by show ¬ (w.heap.size + 1 = w.heap.size); omega)
  have hb2 : Below w.heap.size w w2 := (((Below.refl _ _).alloc (Nat.le_refl _) _).alloc (by simp) _).trans (Mod.toBelow hm (by simp; omega) (fun k hk h => by omega))
  have hBb : B ≤ w2.heap.size := Nat.le_trans hB hb2.size
  have hpl2 := Blk.lt hpr2
  have p1 := hpr2.at_ 1 rfl
  have fp := hpr2.free
  have p2 : ∀ k o, ((w2.drewN k).alloc o).cell? ⟨pb, 1, none⟩ = some (.slice va vn vc) := fun k o => (Blk.alloc (w := w2.drewN k) hpr2 o).at_ 1 rfl
  have HPS2 := hid hps2
  have HPR2 := hid hpr2
  have HROW2 := hid hrow2
  have HR2 := hid hr2
  have HB2 := hid hb2
  have HLN := hid hln
  clear hps2 hpr2 hrow2 hr2 hb2 hln hm a4 a5
  go_wp2_with fail
  go_region_law (first
      | (go_simp; go_at_call 100; refine (string_any w.heap.size j 0 nl s _ ?_ (by omega) hj2).mono ?_; (· exact HLN.out); rintro e w5 ⟨rfl, n5, rfl⟩)
      | (refine step_append_lies _ rfl (.tmp 15) (.tmp 17) 29 (by rfl) B 9 is0 _ 1 16 Tryz.underlying29 his hsz0 hsz1 hsz2 rfl (by decide) (.slice va vn vc) vn ls (by rfl) (World.ownsRow.alloc (World.ownsRow.drewN HROW2.out _) _) ⟨w2.heap.size, 0, none⟩ 1 1 [.string (s.extract j s.size)] (by rfl) rfl (World.news_of_block (heap_alloc_new _ _)) (by intro v hv; simp at hv; subst hv; rfl) (by omega) (by unfold maxLen; omega) (by omega) (by simp; omega) (w2.heap.size + 1) (by simp) ?_
         intro g2 cap2 w4 hown4 hgr4 hat4 hlt4
         have hp4 : Blk w4 pb 232 #[.string ⟨#[]⟩, .slice va vn vc] := Blk.grown (Blk.alloc (w := World.drewN w2 _) HPR2.out _) hgr4 (own_ne HROW2.out HPR2.out (by decide))
         have q1 := hp4.at_ 1 rfl
         have fq := hp4.free))
  all_goals
    have m4 : Mod (fun k => some k = (Value.slice va vn vc).ownBlock) w2 w4 := Mod.grown ((Mod.drewN (Mod.refl _ w2) _).alloc _) hgr4 (fun k hk => .inl hk.symm)
    have hps5 := (HPS2.out.mod m4 (fun h => own_ne HROW2.out HPS2.out (by decide) h)).far (p := ⟨pb, 1, none⟩) (Blk.ne_ HPS2.out HPR2.out (by decide)) (.slice (some ⟨g2, 0, none⟩) (vn + 1) cap2)
    have hr5 := (HR2.out.mod m4 (fun h => own_ne HROW2.out HR2.out (by decide) h)).far (p := ⟨pb, 1, none⟩) (Blk.ne_ HR2.out HPR2.out (by decide)) (.slice (some ⟨g2, 0, none⟩) (vn + 1) cap2)
    have hl5 := (HLN.out.mod m4 (fun h => own_ne HROW2.out HLN.out (by decide) h)).far (p := ⟨pb, 1, none⟩) (Blk.ne_ HLN.out HPR2.out (by decide)) (.slice (some ⟨g2, 0, none⟩) (vn + 1) cap2)
    have hpre5 : Blk (w4.setCell ⟨pb, 1, none⟩ (.slice (some ⟨g2, 0, none⟩) (vn + 1) cap2)) pb 232 #[.string ⟨#[]⟩, .slice (some ⟨g2, 0, none⟩) (vn + 1) cap2] := by simpa using Blk.set_ hp4 1 (.slice (some ⟨g2, 0, none⟩) (vn + 1) cap2)
    have hown5 := own_far hown4 (p := ⟨pb, 1, none⟩) (own_ne hown4 hp4 (by decide)) (.slice (some ⟨g2, 0, none⟩) (vn + 1) cap2)
    have m5 := (m4.mono (S' := fun k => k = pb ∨ some k = (Value.slice va vn vc).ownBlock) (fun _ _ h => .inr h)).setCell (p := ⟨pb, 1, none⟩) (.inl (.inl rfl)) (.slice (some ⟨g2, 0, none⟩) (vn + 1) cap2)
    have HP5 := hid hps5
    have HR5 := hid hr5
    have HL5 := hid hl5
    have HPR5 := hid hpre5
    have HO5 := hid hown5
    have HM5 := hid m5
    clear m4 hps5 hr5 hl5 hpre5 hown5 m5 hown4 hgr4 hat4 hp4 q1 fq p1 p2 fp
    generalize World.setCell w4 ⟨pb, 1, none⟩ _ = wc at HP5 HR5 HL5 HPR5 HO5 HM5 ⊢
    have c6 := HP5.out.c6
    have f6 := HP5.out.free
    have l4 := (show IsLn wc w.heap.size j 0 s nl from HL5.out).c4
    have hr6 := HR5.out
    have r0 := hr6.at_ 0 rfl
    have r1 := hr6.at_ 1 rfl
    have r2 := hr6.at_ 2 rfl
    have r3 := hr6.at_ 3 rfl
    have r4 := hr6.at_ 4 rfl
    have fr := hr6.free
    have hne6 : w.heap.size + 1 ≠ g := by have := HPS.out.lt; omega
    have hne7 : g ≠ w.heap.size + 1 := fun e => hne6 e.symm
    clear hr6
    go_wp2_with fail
  all_goals
    first
    | (have hcr : crn r.corner nl = true := by simp [crn, *]
       have hP : Hid (IsPS (wc.setCell ⟨g, 6, none⟩ (.bool true)) g { r with corner := crn r.corner nl }) := hid (by rw [hcr]; exact HP5.out.set6 true)
       have hR : Hid (Blk (wc.setCell ⟨g, 6, none⟩ (.bool true)) (w.heap.size + 1) 76 #[.int .i64 0, .int .i64 0, .int .i64 0, .string ⟨#[]⟩, .int .u8 0]) := hid (HR5.out.far (p := ⟨g, 6, none⟩) hne6 _)
       have hPR : Hid (Blk (wc.setCell ⟨g, 6, none⟩ (.bool true)) pb 232 #[.string ⟨#[]⟩, .slice (some ⟨g2, 0, none⟩) (vn + 1) cap2]) := hid (HPR5.out.far (p := ⟨g, 6, none⟩) (Blk.ne_ HPR5.out HP5.out (by decide)) _)
       have hO : Hid ((wc.setCell ⟨g, 6, none⟩ (.bool true)).ownsRow B 9 1 (.slice (some ⟨g2, 0, none⟩) (vn + 1) cap2) (vn + 1) (ls ++ [.string (s.extract j s.size)])) := hid (own_far HO5.out (p := ⟨g, 6, none⟩) (own_ne HO5.out HP5.out (by decide)) _)
       have hM : Hid (Mod (fun k => k = g ∨ k = pb ∨ some k = (Value.slice va vn vc).ownBlock) w2 (wc.setCell ⟨g, 6, none⟩ (.bool true))) := hid ((HM5.out.mono (fun _ _ h => .inr h)).setCell (p := ⟨g, 6, none⟩) (.inl (.inl rfl)) _)
       generalize World.setCell wc ⟨g, 6, none⟩ (.bool true) = wd at hP hR hPR hO hM ⊢
       clear r0 r1 r2 r3 r4 fr c6 f6 l4
       have hln := hid (line_zero hR.out)
       have hmy : Hid (Mod (fun k => k = w.heap.size + 1) wd _) := hid ((((((Mod.refl (fun k => k = w.heap.size + 1) wd).setCell (p := ⟨w.heap.size + 1, 0, none⟩) (.inl rfl) (.int .i64 0)).setCell (p := ⟨w.heap.size + 1, 1, none⟩) (.inl rfl) (.int .i64 0)).setCell (p := ⟨w.heap.size + 1, 2, none⟩) (.inl rfl) (.int .i64 0)).setCell (p := ⟨w.heap.size + 1, 3, none⟩) (.inl rfl) (.string ⟨#[]⟩)).setCell (p := ⟨w.heap.size + 1, 4, none⟩) (.inl rfl) (.int .u8 0))
       generalize World.setCell _ ⟨w.heap.size + 1, 4, none⟩ _ = wy at hln hmy ⊢
       have hl4 := hln.out
       have k0 := hl4.at_ 0 rfl
       have k1 := hl4.at_ 1 rfl
       have k2 := hl4.at_ 2 rfl
       have k3 := hl4.at_ 3 rfl
       have k4 := hl4.at_ 4 rfl
       clear hl4
       refine bodyPost_ret (by simp [results, Tryz.results319, go_sem, k0, k1, k2, k3, k4]; try rfl) rfl ?_
       have hmf : Mod (fun k => k = g ∨ k = pb ∨ some k = (Value.slice va vn vc).ownBlock) w wy := ((Mod.below' HB2.out).trans hM.out (fun _ _ h => h)).trans hmy.out (fun k hk e => by omega)
       exact ⟨rfl, ⟨⟨some ⟨g2, 0, none⟩, vn + 1, cap2⟩, rfl, hP.out.mod hmy.out hne7, ⟨hPR.out.mod hmy.out (Blk.ne_ hPR.out hR.out (by decide)), own_mod hO.out hmy.out (fun k hk e => own_ne hO.out hR.out (by decide) (by rw [hk, e])), hBp⟩, hmf⟩, fun lb cs h => h.mod hmf (fun e => Or.elim e (Blk.ne_ h HPS.out (by decide)) (fun e => Or.elim e (Blk.ne_ h HPR.out (by decide)) (own_ne HROW.out h (by decide))))⟩)
    | (have hcr : crn r.corner nl = (nl != 10) := by simp only [crn, *]; rfl
       have hP : Hid (IsPS (wc.setCell ⟨g, 6, none⟩ (.bool (nl != 10))) g { r with corner := crn r.corner nl }) := hid (by rw [hcr]; exact HP5.out.set6 (nl != 10))
       have hR : Hid (Blk (wc.setCell ⟨g, 6, none⟩ (.bool (nl != 10))) (w.heap.size + 1) 76 #[.int .i64 0, .int .i64 0, .int .i64 0, .string ⟨#[]⟩, .int .u8 0]) := hid (HR5.out.far (p := ⟨g, 6, none⟩) hne6 _)
       have hPR : Hid (Blk (wc.setCell ⟨g, 6, none⟩ (.bool (nl != 10))) pb 232 #[.string ⟨#[]⟩, .slice (some ⟨g2, 0, none⟩) (vn + 1) cap2]) := hid (HPR5.out.far (p := ⟨g, 6, none⟩) (Blk.ne_ HPR5.out HP5.out (by decide)) _)
       have hO : Hid ((wc.setCell ⟨g, 6, none⟩ (.bool (nl != 10))).ownsRow B 9 1 (.slice (some ⟨g2, 0, none⟩) (vn + 1) cap2) (vn + 1) (ls ++ [.string (s.extract j s.size)])) := hid (own_far HO5.out (p := ⟨g, 6, none⟩) (own_ne HO5.out HP5.out (by decide)) _)
       have hM : Hid (Mod (fun k => k = g ∨ k = pb ∨ some k = (Value.slice va vn vc).ownBlock) w2 (wc.setCell ⟨g, 6, none⟩ (.bool (nl != 10)))) := hid ((HM5.out.mono (fun _ _ h => .inr h)).setCell (p := ⟨g, 6, none⟩) (.inl (.inl rfl)) _)
       generalize World.setCell wc ⟨g, 6, none⟩ (.bool (nl != 10)) = wd at hP hR hPR hO hM ⊢
       clear r0 r1 r2 r3 r4 fr c6 f6 l4
       have hln := hid (line_zero hR.out)
       have hmy : Hid (Mod (fun k => k = w.heap.size + 1) wd _) := hid ((((((Mod.refl (fun k => k = w.heap.size + 1) wd).setCell (p := ⟨w.heap.size + 1, 0, none⟩) (.inl rfl) (.int .i64 0)).setCell (p := ⟨w.heap.size + 1, 1, none⟩) (.inl rfl) (.int .i64 0)).setCell (p := ⟨w.heap.size + 1, 2, none⟩) (.inl rfl) (.int .i64 0)).setCell (p := ⟨w.heap.size + 1, 3, none⟩) (.inl rfl) (.string ⟨#[]⟩)).setCell (p := ⟨w.heap.size + 1, 4, none⟩) (.inl rfl) (.int .u8 0))
       generalize World.setCell _ ⟨w.heap.size + 1, 4, none⟩ _ = wy at hln hmy ⊢
       have hl4 := hln.out
       have k0 := hl4.at_ 0 rfl
       have k1 := hl4.at_ 1 rfl
       have k2 := hl4.at_ 2 rfl
       have k3 := hl4.at_ 3 rfl
       have k4 := hl4.at_ 4 rfl
       clear hl4
       refine bodyPost_ret (by simp [results, Tryz.results319, go_sem, k0, k1, k2, k3, k4]; try rfl) rfl ?_
       have hmf : Mod (fun k => k = g ∨ k = pb ∨ some k = (Value.slice va vn vc).ownBlock) w wy := ((Mod.below' HB2.out).trans hM.out (fun _ _ h => h)).trans hmy.out (fun k hk e => by omega)
       exact ⟨rfl, ⟨⟨some ⟨g2, 0, none⟩, vn + 1, cap2⟩, rfl, hP.out.mod hmy.out hne7, ⟨hPR.out.mod hmy.out (Blk.ne_ hPR.out hR.out (by decide)), own_mod hO.out hmy.out (fun k hk e => own_ne hO.out hR.out (by decide) (by rw [hk, e])), hBp⟩, hmf⟩, fun lb cs h => h.mod hmf (fun e => Or.elim e (Blk.ne_ h HPS.out (by decide)) (fun e => Or.elim e (Blk.ne_ h HPR.out (by decide)) (own_ne HROW.out h (by decide))))⟩)
end Go.Proofs.YtohokfbjmfjjaaaGreatDoor
