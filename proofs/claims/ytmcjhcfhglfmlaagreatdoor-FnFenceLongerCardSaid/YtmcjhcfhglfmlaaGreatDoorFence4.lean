/- A fence of tildes: the line that ends it; what it builds. -/
import Derived.Test.YtmcjhcfhglfmlaaGreatDoorFence3
import Derived.Shelf.Abstract
namespace Go.Proofs.YtmcjhcfhglfmlaaGreatDoor
open Go.RowKit
/-- What trimFence answers of a line of tildes. -/
def TFTilP (g fb ib nb : Nat) (m : Nat) (w : World) (e : Ending) (w' : World) : Prop :=
  e = .returned (.bool true) ∧ Mod (fun k => k = g ∨ k = fb ∨ k = ib ∨ k = nb) w w' ∧ ∃ fence : ByteArray, fence.size = m ∧ (∀ j, j < m → bt fence j = 126) ∧ Blk w' fb 9 #[.string fence] ∧ Blk w' ib 9 #[.string ⟨#[]⟩]
theorem trimFence_til (g fb ib nb : Nat) (nl : Int) (s : ByteArray) (w : World) (hln : IsLn w g 0 0 s nl) (hf : Blk w fb 9 #[.string ⟨#[]⟩]) (hi : Blk w ib 9 #[.string ⟨#[]⟩]) (hn : Blk w nb 3 #[.int .i64 0]) (hfi : fb ≠ ib)
    (hent : HasEnt w) (hs : s.size ≤ 10000) (h3 : 3 ≤ s.size) (hall : ∀ j, j < s.size → bt s j = 126) :
    Calls Tryz.prog 144 #[.pointer (some ⟨g, 0, none⟩), .pointer (some ⟨fb, 0, none⟩), .pointer (some ⟨ib, 0, none⟩), .pointer (some ⟨nb, 0, none⟩)] w (TFTilP g fb ib nb s.size w) := by
  have ht : ∀ k, bt s k ≠ 9 := fun k => by
    rcases Nat.lt_or_ge k s.size with h | h
    · rw [hall k h]; decide
    · unfold bt; rw [dif_neg (by omega)]; decide
  refine (trimFence_any g fb ib nb nl s ⟨#[]⟩ ⟨#[]⟩ 0 w hln hf hi hn hfi hent hs ht).mono ?_
  rintro e w' ⟨hm, h | ⟨rfl, n, m, c, fence, info, a1, a7, a8, a9, hnb, hfb, hib, hlb⟩⟩
  · obtain ⟨_, _, h3'⟩ := h
    exact absurd (fence_tilde s hall h3) (h3' _ _ _)
  · obtain ⟨rfl, rfl, rfl⟩ := fence_one s n m c hall a1
    have := a7 (by omega)
    subst this
    exact ⟨rfl, hm, fence, a8, a9, hfb, hib⟩
theorem til_prefix (f p : ByteArray) (n : Nat) (hf : f.size = n) (hfa : ∀ j, j < n → bt f j = 126) (hp : p.size ≤ n) (hpa : ∀ j, j < p.size → bt p j = 126) : f.extract 0 p.size = p := by
  apply ByteArray.ext_getElem
  · simp; omega
  · intro i h1 h2
    rw [ByteArray.getElem_extract]
    have e1 := hfa i (by omega)
    have e2 := hpa i h2
    unfold bt at e1 e2
    rw [dif_pos (by omega)] at e1
    rw [dif_pos h2] at e2
    have : (f[0 + i]'(by omega)) = p[i] := by
      apply UInt8.toNat_inj.1
      have e3 : (f[i]'(by omega)).toNat = p[i].toNat := by omega
      simpa using e3
    exact this
set_option maxRecDepth 20000 in
set_option maxHeartbeats 8000000 in
theorem fen_close (B g fb m : Nat) (v : Sl) (ls : List Value) (nl : Int) (s : ByteArray) (w : World) (hfen : IsFen w B fb m v ls) (hent : HasEnt w)
    (hs : s.size ≤ 10000) (hm3 : 3 ≤ m) (hms : m ≤ s.size) (hall : ∀ j, j < s.size → bt s j = 126) :
    Calls Tryz.prog 335 #[.pointer (some ⟨fb, 0, none⟩), .pointer (some ⟨g, 0, none⟩), lnV 0 0 s nl] w fun e w' => e = .returned (.tuple #[lnV 0 0 ⟨#[]⟩ 0, .bool false]) ∧ Below w.heap.size w w' := by
  obtain ⟨cf, hcf1, hcf2, hfb, hrow, hBf⟩ := hfen
  have HALL := hid hall
  have HFB := hid hfb
  have HE := hid hent
  have HCF := hid hcf2
  have HCF1 := hid hcf1
  clear hall hfb hent hcf2 hcf1 hrow
  have hfl := Blk.lt HFB.out
  go_enter Tryz.func335, Tryz.ntmps335
  go_wp2_with fail
  have hfs := hid (fs_mk w s nl)
  unfold fenW at hfs
  generalize World.alloc _ _ = wa at hfs ⊢
  have HFA : Hid (Blk wa fb 253 #[.string cf, .string ⟨#[]⟩, .int .i64 0, v.v]) := hid (HFB.out.mod (Mod.below' (S := fun _ => False) hfs.out.bel) (fun h => h))
  have HEA : Hid (HasEnt wa.drew) := hid (show HasEnt wa from HE.out.below hfs.out.bel)
  have hfd := hid hfs.out.drew
  go_cut [25] (fun t25 wx => t25 = .bool true ∧ Mod (fun k => w.heap.size + 2 ≤ k) wa wx)
  case first =>
    first
      | go_region_with (first
          | (go_at_call 144; refine (trimFence_til _ _ _ _ nl s _ hfd.out.cpy hfd.out.fen hfd.out.inf hfd.out.num ?_ HEA.out hs ?_ HALL.out).mono ?_; (· omega); (· omega); rintro e w3 ⟨rfl, hm3', fence, hz3, hb3, hf3, hi3⟩
             have f3 : w3.cell? ⟨w.heap.size + 1 + 1, 0, none⟩ = some (.string fence) := hf3.at_ 0 rfl
             have i3 : w3.cell? ⟨w.heap.size + 1 + 1 + 1, 0, none⟩ = some (.string ⟨#[]⟩) := hi3.at_ 0 rfl
             have q3 : w3.cell? ⟨fb, 0, none⟩ = some (.string cf) := (Blk.mod (w := wa.drew) HFA.out hm3' (by show ¬ (_ ∨ _); omega)).at_ 0 rfl
             have hz4 := hid hz3
             have hb4 := hid hb3
             clear hz3 hb3)
          | (go_at_call 39; refine (hasPrefix_yes _ _ _ ?_ ?_ ?_).mono ?_; (· have := hz4.out; omega); (· have := hz4.out; have := HCF1.out; omega); (· have h1 := HCF1.out; exact til_prefix _ _ s.size hz4.out hb4.out (by omega) (by rw [h1]; exact HCF.out)); rintro e w4 ⟨rfl, rfl⟩))
      | fail
    all_goals go_wp2
    all_goals go_meet
    all_goals exact ⟨rfl, (Mod.refl _ _).drew.trans hm3' (fun k _ h => by omega)⟩
  case rest =>
    obtain ⟨rfl, hmc⟩ := hcut
    have hrs1 : Blk wc (w.heap.size + 1) 104 #[.int .i64 0, .int .i64 0, .int .i64 0, .string ⟨#[]⟩, .int .u8 0] := hfs.out.res.mod hmc (by show ¬ (_ ≤ _); omega)
    have hbl1 : Below w.heap.size w wc := hfs.out.bel.trans (Mod.toBelow hmc hfs.out.bel.size (fun k hk h => by omega))
    have HS1 := hid hrs1
    have HB1 := hid hbl1
    have r0 := hrs1.at_ 0 rfl
    have r1 := hrs1.at_ 1 rfl
    have r2 := hrs1.at_ 2 rfl
    have r3 := hrs1.at_ 3 rfl
    have r4 := hrs1.at_ 4 rfl
    have fr := hrs1.free
    clear hrs1 hbl1 hmc hfs hfd HFA HEA
    go_wp2_with fail
    have hln := hid (line_zero HS1.out)
    have hmy : Hid (Below w.heap.size w _) := hid (((((HB1.out.setCell (p := ⟨w.heap.size + 1, 0, none⟩) (by simp) (.int .i64 0)).setCell (p := ⟨w.heap.size + 1, 1, none⟩) (by simp) (.int .i64 0)).setCell (p := ⟨w.heap.size + 1, 2, none⟩) (by simp) (.int .i64 0)).setCell (p := ⟨w.heap.size + 1, 3, none⟩) (by simp) (.string ⟨#[]⟩)).setCell (p := ⟨w.heap.size + 1, 4, none⟩) (by simp) (.int .u8 0))
    generalize World.setCell _ ⟨w.heap.size + 1, 4, none⟩ _ = wy at hln hmy ⊢
    clear r0 r1 r2 r3 r4 fr
    have hl4 := hln.out
    have k0 := hl4.at_ 0 rfl
    have k1 := hl4.at_ 1 rfl
    have k2 := hl4.at_ 2 rfl
    have k3 := hl4.at_ 3 rfl
    have k4 := hl4.at_ 4 rfl
    clear hl4
    refine bodyPost_ret (by simp [results, Tryz.results335, go_sem, k0, k1, k2, k3, k4]; try rfl) rfl ?_
    exact ⟨rfl, hmy.out⟩
end Go.Proofs.YtmcjhcfhglfmlaaGreatDoor
