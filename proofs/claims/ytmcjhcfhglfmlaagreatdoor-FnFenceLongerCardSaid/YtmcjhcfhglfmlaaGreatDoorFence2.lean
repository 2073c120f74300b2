/- A fence of tildes: its first line begins a block of code. -/
import Derived.Test.YtmcjhcfhglfmlaaGreatDoorFence
import Derived.Test.YtmcjhcfhglfmlaaGreatDoorAddG
import Derived.Test.YtmcjhcfhglfmlaaGreatDoorClose
import Derived.Test.YtmcjhcfhglfmlaaGreatDoorOwn
import Derived.Deep.RegionLaw
import Derived.Deep.AppendLies
namespace Go.Proofs.YtmcjhcfhglfmlaaGreatDoor
open Go.RowKit
def fenE (fb : Nat) (sl el : Int) : Ent := ⟨251, .pointer (some ⟨fb, 0, none⟩), Sl.nil, sl, el⟩
/-- A builder of fenced code behind m tildes, and its lines. -/
def IsFen (w : World) (B fb m : Nat) (v : Sl) (ls : List Value) : Prop :=
  ∃ fence : ByteArray, fence.size = m ∧ (∀ j, j < m → bt fence j = 126) ∧ Blk w fb 253 #[.string fence, .string ⟨#[]⟩, .int .i64 0, v.v] ∧ w.ownsRow B 9 1 v.v v.n ls ∧ B ≤ fb
def NewFenP (B g : Nat) (r : PSr) (e0 : Ent) (m : Nat) (w w' : World) : Prop :=
  ∃ st fb, IsPS w' g { r with stack := st } ∧ IsStack w' B st ([] ++ [e0] ++ [fenE fb r.lineno r.lineno]) ∧ IsFen w' B fb m Sl.nil [] ∧ (∀ k, st.v.ownBlock = some k → r.stack.v.ownBlock = some k ∨ w.heap.size ≤ k) ∧ Mod (fun k => k = g ∨ some k = r.stack.v.ownBlock) w w'
theorem fence_tilde (s : ByteArray) (hall : ∀ j, j < s.size → bt s j = 126) (h3 : 3 ≤ s.size) : FenceAt s 0 s.size 126 :=
  ⟨by omega, by omega, h3, .inr rfl, fun j h => absurd h (by omega), fun j _ h => hall j (by omega), fun h => absurd h (by omega), fun h => nomatch h⟩
theorem fence_one (s : ByteArray) (n m : Nat) (c : Int) (hall : ∀ j, j < s.size → bt s j = 126) (h : FenceAt s n m c) : n = 0 ∧ c = 126 ∧ m = s.size := by
  obtain ⟨_, hnm, hm, _, hsp, hrun, hstop, _⟩ := h
  have h0 : n = 0 := by
    rcases Nat.eq_or_lt_of_le (Nat.zero_le n) with h | h
    · exact h.symm
    · have h1 := hsp 0 h
      rw [hall 0 (by omega)] at h1
      cases h1
  subst h0
  have hc : c = 126 := by rw [← hrun 0 (by omega) (by omega)]; exact hall 0 (by omega)
  subst hc
  refine ⟨rfl, rfl, ?_⟩
  rcases Nat.lt_or_ge (0 + m) s.size with h | h
  · exact absurd (hall _ h) (hstop h)
  · omega
set_option maxRecDepth 20000 in
set_option maxHeartbeats 4000000 in
theorem newFence_yes (B g : Nat) (r : PSr) (e0 : Ent) (nl : Int) (s : ByteArray) (w : World) (hB : B ≤ w.heap.size) (hps : IsPS w g r) (hst : IsStack w B r.stack ([] ++ [e0])) (hd : r.lineDepth = 0) (hent : HasEnt w) (hs : s.size ≤ 10000) (h3 : 3 ≤ s.size) (hall : ∀ j, j < s.size → bt s j = 126) :
    Calls Tryz.prog 94 #[.pointer (some ⟨g, 0, none⟩), lnV 0 0 s nl] w fun e w' => e = .returned (.tuple #[lnV 0 0 ⟨#[]⟩ 0, .bool true]) ∧ NewFenP B g r e0 s.size w w' ∧ w.heap.size ≤ w'.heap.size ∧ ∀ lb cs, Blk w lb 104 cs → Blk w' lb 104 cs := by
  have ht : ∀ k, bt s k ≠ 9 := fun k => by
    rcases Nat.lt_or_ge k s.size with h | h
    · rw [hall k h]; decide
    · unfold bt; rw [dif_neg (by omega)]; decide
  have HT := hid ht
  have HALL := hid hall
  have HPS := hid hps
  have HST := hid hst
  have HD := hid hd
  have HE := hid hent
  clear ht hall hps hst hd hent
  go_enter Tryz.func94, Tryz.ntmps94
  go_wp2_with fail
  refine (trimFence_any _ _ _ _ nl s ⟨#[]⟩ ⟨#[]⟩ 0 _ ?_ ?_ ?_ ?_ ?_ ?_ hs HT.out).mono ?_
  · exact Blk.new' (by simp)
  · exact Blk.alloc (Blk.alloc (Blk.alloc (Blk.new' (by simp)) _) _) _
  · exact Blk.alloc (Blk.alloc (Blk.new' (by simp)) _) _
  · exact Blk.alloc (Blk.new' (by simp)) _
  · omega
  · exact HE.out.below ((((((Below.refl _ _).alloc (Nat.le_refl _) _).alloc (by simp) _).alloc (by simp; omega) _).alloc (by simp; omega) _).alloc (by simp; omega) _ |>.alloc (by simp; omega) _)
  rintro e w1 ⟨hm, hres⟩
  rcases hres with ⟨rfl, _, hf⟩ | ⟨rfl, n, m, c, fence, info, a1, a7, a8, a9, hnb, hfb, hib, hlb⟩
  · exact absurd (fence_tilde s HALL.out h3) (hf _ _ _)
  obtain ⟨rfl, rfl, rfl⟩ := fence_one s n m c HALL.out a1
  have hinfo := a7 (by omega)
  subst hinfo
  have hbel : Below w.heap.size w w1 := ((((((Below.refl _ _).alloc (Nat.le_refl _) _).alloc (by simp) _).alloc (by simp; omega) _).alloc (by simp; omega) _).alloc (by simp; omega) _ |>.alloc (by simp; omega) _).trans (Mod.toBelow hm (by simp; omega) (fun k hk h => by omega))
  have hr1 : Blk w1 (w.heap.size + 1) 104 #[.int .i64 0, .int .i64 0, .int .i64 0, .string ⟨#[]⟩, .int .u8 0] := (Blk.alloc (Blk.alloc (Blk.alloc (Blk.alloc (Blk.new' (by simp)) _) _) _) _ : Blk _ (w.heap.size + 1) 104 #[.int .i64 0, .int .i64 0, .int .i64 0, .string ⟨#[]⟩, .int .u8 0]).mod hm (by show ¬ (_ ∨ _); omega)
  have hfz : 0 < fence.size := by omega
  have hb := get_bt fence
  have hA : (bt fence 0 == 126) = true := by rw [a9 0 (by omega)]; rfl
  have cf : w1.cell? ⟨w.heap.size + 1 + 1, 0, none⟩ = some (.string fence) := hfb.at_ 0 rfl
  have ci : w1.cell? ⟨w.heap.size + 1 + 1 + 1, 0, none⟩ = some (.string ⟨#[]⟩) := hib.at_ 0 rfl
  have cf2 : (w1.iter ⟨#[]⟩ 0).cell? ⟨w.heap.size + 1 + 1, 0, none⟩ = some (.string fence) := (Blk.alloc hfb _).at_ 0 rfl
  have ci2 : (w1.iter ⟨#[]⟩ 0).cell? ⟨w.heap.size + 1 + 1 + 1, 0, none⟩ = some (.string ⟨#[]⟩) := (Blk.alloc hib _).at_ 0 rfl
  have cn2 : (w1.iter ⟨#[]⟩ 0).cell? ⟨w.heap.size + 1 + 1 + 1 + 1, 0, none⟩ = some (.int .i64 0) := (Blk.alloc hnb _).at_ 0 rfl
  have cn : w1.cell? ⟨w.heap.size + 1 + 1 + 1 + 1, 0, none⟩ = some (.int .i64 0) := hnb.at_ 0 rfl
  have A8 := hid a8
  have A9 := hid a9
  have HBEL := hid hbel
  have HR1 := hid hr1
  have HLT1 := hid (Blk.lt hlb)
  clear hm a1 a7 a8 a9 hfb hlb hnb hib hbel hr1 HT HALL HE
  go_wp2_with fail
  have hnx : ∀ ty, (Instr.next (.pointer (some ⟨w1.heap.size, 0, none⟩)) true ty).run Tryz.prog (w1.iter ⟨#[]⟩ 0) = _ := fun ty => run_next_end w1 ⟨#[]⟩ 0 ty (by decide)
  refine wp_loop_rounds 1 ?_
  rw [rounds_succ]
  go_wp2_with fail
  have hpA : Hid (IsPS (w1.iter ⟨#[]⟩ 0) g r) := hid ((HPS.out.below HBEL.out).alloc _)
  have hsA : Hid (IsStack (w1.iter ⟨#[]⟩ 0) B r.stack ([] ++ [e0])) := hid ((HST.out.below HBEL.out).alloc _)
  have hrA : Hid (Blk (w1.iter ⟨#[]⟩ 0) (w.heap.size + 1) 104 #[.int .i64 0, .int .i64 0, .int .i64 0, .string ⟨#[]⟩, .int .u8 0]) := hid (Blk.alloc HR1.out _)
  have hbA : Hid (Below w.heap.size w (w1.iter ⟨#[]⟩ 0)) := hid (HBEL.out.alloc HBEL.out.size _)
  clear HBEL HR1 HLT1 cf ci cn cf2 ci2 cn2 hA hb hfz hnx
  generalize w1.iter ⟨#[]⟩ 0 = wa at hpA hsA hrA hbA ⊢
  refine (addBlock_top B g r ([] ++ [e0]) _ _ _ (by have := hbA.out.size; simp; omega) (hpA.out.alloc _) (hsA.out.alloc _) (by rw [HD.out]; rfl) (by simp)).mono ?_
  rintro e w3 ⟨rfl, st, hps3, hst3, hown3, hm3⟩
  have hfen3 : Blk w3 wa.heap.size 253 #[.string fence, .string ⟨#[]⟩, .int .i64 0, .slice none 0 0] := (Blk.new wa 253 #[.string fence, .string ⟨#[]⟩, .int .i64 0, .slice none 0 0]).mod hm3 (fun h => Or.elim h (fun e => by have := hpA.out.lt; omega) (fun e => by have := ownLt hsA.out.2 e; omega))
  have hr3 : Blk w3 (w.heap.size + 1) 104 #[.int .i64 0, .int .i64 0, .int .i64 0, .string ⟨#[]⟩, .int .u8 0] := (Blk.alloc hrA.out _).mod hm3 (fun h => Or.elim h (Blk.ne_ hrA.out hpA.out (by decide)) (own_ne hsA.out.2 hrA.out (by decide)))
  have hmA : Mod (fun k => k = g ∨ some k = r.stack.v.ownBlock) w w3 := ((Mod.below' hbA.out).alloc _).trans hm3 (fun _ _ h => h)
  have HP3 := hid hps3
  have HS3 := hid hst3
  have HO3 := hid hown3
  have HF3 := hid hfen3
  have HR3 := hid hr3
  have HMA := hid hmA
  clear hps3 hst3 hown3 hm3 hfen3 hr3 hmA hpA hsA hrA
  have hr6 := HR3.out
  have r0 := hr6.at_ 0 rfl
  have r1 := hr6.at_ 1 rfl
  have r2 := hr6.at_ 2 rfl
  have r3 := hr6.at_ 3 rfl
  have r4 := hr6.at_ 4 rfl
  have fr := hr6.free
  clear hr6
  go_wp2_with fail
  have hln := hid (line_zero HR3.out)
  have hmy : Hid (Mod (fun k => k = w.heap.size + 1) w3 _) := hid ((((((Mod.refl (fun k => k = w.heap.size + 1) w3).setCell (p := ⟨w.heap.size + 1, 0, none⟩) (.inl rfl) (.int .i64 0)).setCell (p := ⟨w.heap.size + 1, 1, none⟩) (.inl rfl) (.int .i64 0)).setCell (p := ⟨w.heap.size + 1, 2, none⟩) (.inl rfl) (.int .i64 0)).setCell (p := ⟨w.heap.size + 1, 3, none⟩) (.inl rfl) (.string ⟨#[]⟩)).setCell (p := ⟨w.heap.size + 1, 4, none⟩) (.inl rfl) (.int .u8 0))
  generalize World.setCell _ ⟨w.heap.size + 1, 4, none⟩ _ = wy at hln hmy ⊢
  clear r0 r1 r2 r3 r4 fr
  have hl4 := hln.out
  have k0 := hl4.at_ 0 rfl
  have k1 := hl4.at_ 1 rfl
  have k2 := hl4.at_ 2 rfl
  have k3 := hl4.at_ 3 rfl
  have k4 := hl4.at_ 4 rfl
  clear hl4
  refine bodyPost_ret (by simp [results, Tryz.results94, go_sem, k0, k1, k2, k3, k4]; try rfl) rfl ?_
  have hwa : w.heap.size ≤ wa.heap.size := hbA.out.size
  have hmf : Mod (fun k => k = g ∨ some k = r.stack.v.ownBlock) w wy := HMA.out.trans hmy.out (fun k hk e => by omega)
  refine ⟨rfl, ⟨st, wa.heap.size, HP3.out.mod hmy.out (Blk.ne_ HP3.out HR3.out (by decide)), HS3.out.mod hmy.out (fun k hk e => own_ne HS3.out.2 HR3.out (by decide) (by rw [hk, e])), ⟨fence, A8.out, A9.out, HF3.out.mod hmy.out (Blk.ne_ HF3.out HR3.out (by decide)), World.ownsRow_nil _ _ _ _, Nat.le_trans hB hwa⟩, ?_, hmf⟩, hmf.size, fun lb cs h => h.mod hmf (fun e => Or.elim e (Blk.ne_ h HPS.out (by decide)) (own_ne HST.out.2 h (by decide)))⟩
  intro k hk
  rcases HO3.out k hk with h | h
  · exact .inl h
  · exact .inr (Nat.le_trans hwa (Nat.le_trans (by simp) h))
end Go.Proofs.YtmcjhcfhglfmlaaGreatDoor
