/- Texts of this proof, joined: The starter of quotations declines a line, where no sign of it is reached, The starter of headings declines a line, where no sign of it is reached, A line while only the root is open: no starter takes it, and a paragraph begins. -/
import Derived.Test.YtmmijmhdbpldpaaGreatDoorCRef02
import Derived.Test.YtmmijmhdbpldpaaGreatDoorCRef07
import Derived.Test.YtmmijmhdbpldpaaGreatDoorCRef06
import Derived.Test.YtmmijmhdbpldpaaGreatDoorCRef01
import Derived.Test.YtmmijmhdbpldpaaGreatDoorCRef05
import Derived.Test.YtmmijmhdbpldpaaGreatDoorCRef03
import Derived.Test.YtmmijmhdbpldpaaGreatDoorCRef04
import Derived.Deep.DeepCutAuto
import Derived.Shelf.Strings.Builder1
import Derived.Ground.NamesProg
import Derived.Test.YtmmijmhdbpldpaaGreatDoorProg
/- The starter of quotations declines a line, where no sign of it is reached. -/


namespace Go.Proofs.YtmmijmhdbpldpaaGreatDoor
open Go.RowKit
set_option maxHeartbeats 1600000 in
theorem trimQuote_no2 (i : Nat) (tb nl : Int) (s : ByteArray) (w : World) (hs : s.size ≤ 140737488355328) (hi : i ≤ s.size) (ht : ∀ k, bt s k ≠ 9) (hq : ∀ k, Reach s i k → bt s k ≠ 62) :
    Calls Tryz.prog 124 #[lnV i tb s nl] w fun e w' => e = .returned (.tuple #[lnV i tb s nl, .bool false]) ∧ Below w.heap.size w w' := by
  have HT := hid ht
  have HQ := hid hq
  clear ht hq
  go_enter Tryz.func124, Tryz.ntmps124
  go_wp2_with fail
  refine (trimSp_any _ i 0 3 false tb nl s _ (Blk.new' (by simp)) hs hi HT.out (by omega) (by omega)).mono ?_
  rintro e w1 ⟨j, h1, h2, h3, h4, h5, h6, hm⟩
  rcases h6 with ⟨rfl, _, hln⟩ | ⟨_, hbad, _⟩
  · have HLN := hid hln
    have HM := hid hm
    have HJ := hid (show Reach s i j from ⟨h1, h2, h3, h4⟩)
    clear hln hm h4 h5
    go_wp2_with fail
    refine (trim_no _ j _ tb nl s _ HLN.out hs (.inr (HQ.out j HJ.out))).mono ?_
    rintro e w2 ⟨rfl, n2, rfl⟩
    have hm2 := HM.out.drewN n2
    have hbox : IsLn (w1.drewN n2) w.heap.size i tb s nl := (Blk.alloc (Blk.alloc (Blk.new' rfl) _) _ : Blk _ w.heap.size 104 (lnC i tb s nl)).mod hm2 (by show ¬ (w.heap.size = w.heap.size + 1 + 1); omega)
    have hres : Blk (w1.drewN n2) (w.heap.size + 1) 104 #[.int .i64 0, .int .i64 0, .int .i64 0, .string ⟨#[]⟩, .int .u8 0] := (Blk.alloc (Blk.new' (by simp)) _ : Blk _ (w.heap.size + 1) 104 #[.int .i64 0, .int .i64 0, .int .i64 0, .string ⟨#[]⟩, .int .u8 0]).mod hm2 (by show ¬ (w.heap.size + 1 = w.heap.size + 1 + 1); omega)
    have hbel : Below w.heap.size w (w1.drewN n2) := below_drewN (((((Below.refl _ _).alloc (Nat.le_refl _) _).alloc (by simp) _).alloc (by simp; omega) _).trans (Mod.toBelow HM.out (by simp; omega) (fun k hk h => by omega))) n2
    clear HM HLN hm2
    generalize w1.drewN n2 = wa at hbox hres hbel ⊢
    have c0 := hbox.c0
    have c1 := hbox.c1
    have c2 := hbox.c2
    have c3 := hbox.c3
    have c4 := hbox.c4
    have r0 := hres.at_ 0 rfl
    have r1 := hres.at_ 1 rfl
    have r2 := hres.at_ 2 rfl
    have r3 := hres.at_ 3 rfl
    have r4 := hres.at_ 4 rfl
    have fr := hres.free
    have HR := hid hres
    have HB := hid hbel
    clear hbox hres hbel
    go_wp2_with fail
    have hln := hid (ln_store HR.out i tb nl s)
    have hb2 : Hid (Below w.heap.size w _) := hid (((((HB.out.setCell (p := ⟨w.heap.size + 1, 0, none⟩) (by simp) (.int .i64 0)).setCell (p := ⟨w.heap.size + 1, 1, none⟩) (by simp) (.int .i64 i)).setCell (p := ⟨w.heap.size + 1, 2, none⟩) (by simp) (.int .i64 tb)).setCell (p := ⟨w.heap.size + 1, 3, none⟩) (by simp) (.string s)).setCell (p := ⟨w.heap.size + 1, 4, none⟩) (by simp) (.int .u8 nl))
    generalize World.setCell _ ⟨w.heap.size + 1, 4, none⟩ _ = wy at hln hb2 ⊢
    clear c0 c1 c2 c3 c4 r0 r1 r2 r3 r4 fr
    have k0 := hln.out.c0
    have k1 := hln.out.c1
    have k2 := hln.out.c2
    have k3 := hln.out.c3
    have k4 := hln.out.c4
    refine bodyPost_ret (by simp [results, Tryz.results124, go_sem, k0, k1, k2, k3, k4]; try rfl) rfl ?_
    exact ⟨rfl, hb2.out⟩
  · omega
set_option maxHeartbeats 1600000 in
theorem newQuote_no2 (g i : Nat) (tb nl : Int) (s : ByteArray) (w : World) (hs : s.size ≤ 140737488355328) (hi : i ≤ s.size) (ht : ∀ k, bt s k ≠ 9) (hq : ∀ k, Reach s i k → bt s k ≠ 62) :
    Calls Tryz.prog 85 #[.pointer (some ⟨g, 0, none⟩), lnV i tb s nl] w fun e w' => e = .returned (.tuple #[lnV i tb s nl, .bool false]) ∧ Below w.heap.size w w' := by
  have HT := hid ht
  have HQ := hid hq
  clear ht hq
  go_enter Tryz.func85, Tryz.ntmps85
  go_wp2_with fail
  refine (trimQuote_no2 i tb nl s _ hs hi HT.out HQ.out).mono ?_
  rintro e w1 ⟨rfl, hb⟩
  have hm2 := Mod.below' (S := fun _ => False) hb
  have hbox : IsLn w1 w.heap.size i tb s nl := (Blk.alloc (Blk.new' rfl) _ : Blk _ w.heap.size 104 (lnC i tb s nl)).mod (S := fun _ => False) hm2 (fun h => h)
  have hres : Blk w1 (w.heap.size + 1) 104 #[.int .i64 0, .int .i64 0, .int .i64 0, .string ⟨#[]⟩, .int .u8 0] := (Blk.new' (by simp) : Blk _ (w.heap.size + 1) 104 #[.int .i64 0, .int .i64 0, .int .i64 0, .string ⟨#[]⟩, .int .u8 0]).mod (S := fun _ => False) hm2 (fun h => h)
  have hbel : Below w.heap.size w w1 := (((Below.refl _ _).alloc (Nat.le_refl _) _).alloc (by simp) _).trans (hb.mono (by simp; omega))
  have hl1 := Blk.lt hbox
  have hl2 := Blk.lt hres
  clear hb hm2
  have c0 := hbox.c0
  have c1 := hbox.c1
  have c2 := hbox.c2
  have c3 := hbox.c3
  have c4 := hbox.c4
  have r0 := hres.at_ 0 rfl
  have r1 := hres.at_ 1 rfl
  have r2 := hres.at_ 2 rfl
  have r3 := hres.at_ 3 rfl
  have r4 := hres.at_ 4 rfl
  have fr := hres.free
  have HR := hid hres
  have HB := hid hbel
  clear hbox hres hbel
  unfold lnV
  go_wp2_with fail
  have hln : Hid (IsLn _ (w.heap.size + 1) i tb s nl) := hid (Blk.alloc (ln_store HR.out i tb nl s) (.cells #[.int .i64 0, .int .i64 i, .int .i64 tb, .string s, .int .u8 nl] 104))
  have hb2 : Hid (Below w.heap.size w _) := hid ((((((HB.out.setCell (p := ⟨w.heap.size + 1, 0, none⟩) (by simp) (.int .i64 0)).setCell (p := ⟨w.heap.size + 1, 1, none⟩) (by simp) (.int .i64 i)).setCell (p := ⟨w.heap.size + 1, 2, none⟩) (by simp) (.int .i64 tb)).setCell (p := ⟨w.heap.size + 1, 3, none⟩) (by simp) (.string s)).setCell (p := ⟨w.heap.size + 1, 4, none⟩) (by simp) (.int .u8 nl)).alloc (by simp; omega) (.cells #[.int .i64 0, .int .i64 i, .int .i64 tb, .string s, .int .u8 nl] 104))
  generalize World.alloc _ _ = wy at hln hb2 ⊢
  clear c0 c1 c2 c3 c4 r0 r1 r2 r3 r4 fr
  have k0 := hln.out.c0
  have k1 := hln.out.c1
  have k2 := hln.out.c2
  have k3 := hln.out.c3
  have k4 := hln.out.c4
  refine bodyPost_ret (by simp [results, Tryz.results85, go_sem, k0, k1, k2, k3, k4]; try rfl) rfl ?_
  exact ⟨rfl, hb2.out⟩
end Go.Proofs.YtmmijmhdbpldpaaGreatDoor
/- The starter of headings declines a line, where no sign of it is reached. -/


namespace Go.Proofs.YtmmijmhdbpldpaaGreatDoor
open Go.RowKit
set_option maxHeartbeats 1600000 in
theorem trimHeading_no2 (g i n : Nat) (tb nl : Int) (s : ByteArray) (w : World) (h : IsLn w g i tb s nl) (hs : s.size ≤ 140737488355328) (hi : i ≤ s.size) (ht : ∀ k, bt s k ≠ 9) (hq : ∀ k, Reach s i k → bt s k ≠ 35) :
    Calls Tryz.prog 125 #[.pointer (some ⟨g, 0, none⟩), .pointer (some ⟨n, 0, none⟩)] w fun e w' => e = .returned (.bool false) ∧ Below w.heap.size w w' := by
  have h0 := h.c0
  have h1 := h.c1
  have h2 := h.c2
  have h3 := h.c3
  have h4 := h.c4
  have HT := hid ht
  have HQ := hid hq
  clear ht hq h
  go_enter Tryz.func125, Tryz.ntmps125
  go_wp2_with fail
  refine (trimSp_any _ i 0 3 false tb nl s _ (Blk.new' (by simp)) hs hi HT.out (by omega) (by omega)).mono ?_
  rintro e w1 ⟨j, a1, a2, a3, a4, a5, a6, hm⟩
  rcases a6 with ⟨rfl, _, hln⟩ | ⟨_, hbad, _⟩
  · have HLN := hid hln
    have HM := hid hm
    have HJ := hid (show Reach s i j from ⟨a1, a2, a3, a4⟩)
    clear hln hm a4 a5
    go_wp2_with fail
    refine (trim_no _ j _ tb nl s _ HLN.out hs (.inr (HQ.out j HJ.out))).mono ?_
    rintro e w2 ⟨rfl, n2, rfl⟩
    go_wp2_with fail
    go_ret
    exact ⟨rfl, below_drewN (((Below.refl _ _).alloc (Nat.le_refl _) _).trans (Mod.toBelow HM.out (by simp) (fun k hk h => by omega))) n2⟩
  · omega
set_option maxHeartbeats 1600000 in
theorem newATX_no2 (g i : Nat) (tb nl : Int) (s : ByteArray) (w : World) (hs : s.size ≤ 140737488355328) (hi : i ≤ s.size) (ht : ∀ k, bt s k ≠ 9) (hq : ∀ k, Reach s i k → bt s k ≠ 35) :
    Calls Tryz.prog 86 #[.pointer (some ⟨g, 0, none⟩), lnV i tb s nl] w fun e w' => e = .returned (.tuple #[lnV i tb s nl, .bool false]) ∧ Below w.heap.size w w' := by
  have HT := hid ht
  have HQ := hid hq
  clear ht hq
  go_enter Tryz.func86, Tryz.ntmps86
  go_wp2_with fail
  refine (trimHeading_no2 _ i _ tb nl s _ (Blk.alloc (Blk.new' (by simp)) _) hs hi HT.out HQ.out).mono ?_
  rintro e w1 ⟨rfl, hb⟩
  have hm2 := Mod.below' (S := fun _ => False) hb
  have hbox : IsLn w1 w.heap.size i tb s nl := (Blk.alloc (Blk.alloc (Blk.alloc (Blk.new' rfl) _) _) _ : Blk _ w.heap.size 104 (lnC i tb s nl)).mod (S := fun _ => False) hm2 (fun h => h)
  have hres : Blk w1 (w.heap.size + 1) 104 #[.int .i64 0, .int .i64 0, .int .i64 0, .string ⟨#[]⟩, .int .u8 0] := (Blk.alloc (Blk.alloc (Blk.new' (by simp)) _) _ : Blk _ (w.heap.size + 1) 104 #[.int .i64 0, .int .i64 0, .int .i64 0, .string ⟨#[]⟩, .int .u8 0]).mod (S := fun _ => False) hm2 (fun h => h)
  have hbel : Below w.heap.size w w1 := (((((Below.refl _ _).alloc (Nat.le_refl _) _).alloc (by simp) _).alloc (by simp; omega) _).alloc (by simp; omega) _).trans (hb.mono (by simp; omega))
  clear hb hm2
  have c0 := hbox.c0
  have c1 := hbox.c1
  have c2 := hbox.c2
  have c3 := hbox.c3
  have c4 := hbox.c4
  have r0 := hres.at_ 0 rfl
  have r1 := hres.at_ 1 rfl
  have r2 := hres.at_ 2 rfl
  have r3 := hres.at_ 3 rfl
  have r4 := hres.at_ 4 rfl
  have fr := hres.free
  have HR := hid hres
  have HB := hid hbel
  clear hbox hres hbel
  unfold lnV
  go_wp2_with fail
  have hln : Hid (IsLn _ (w.heap.size + 1) i tb s nl) := hid (ln_store HR.out i tb nl s)
  have hb2 : Hid (Below w.heap.size w _) := hid (((((HB.out.setCell (p := ⟨w.heap.size + 1, 0, none⟩) (by simp) (.int .i64 0)).setCell (p := ⟨w.heap.size + 1, 1, none⟩) (by simp) (.int .i64 i)).setCell (p := ⟨w.heap.size + 1, 2, none⟩) (by simp) (.int .i64 tb)).setCell (p := ⟨w.heap.size + 1, 3, none⟩) (by simp) (.string s)).setCell (p := ⟨w.heap.size + 1, 4, none⟩) (by simp) (.int .u8 nl))
  generalize World.setCell _ ⟨w.heap.size + 1, 4, none⟩ _ = wy at hln hb2 ⊢
  clear c0 c1 c2 c3 c4 r0 r1 r2 r3 r4 fr
  have k0 := hln.out.c0
  have k1 := hln.out.c1
  have k2 := hln.out.c2
  have k3 := hln.out.c3
  have k4 := hln.out.c4
  refine bodyPost_ret (by simp [results, Tryz.results86, go_sem, k0, k1, k2, k3, k4]; try rfl) rfl ?_
  exact ⟨rfl, hb2.out⟩
end Go.Proofs.YtmmijmhdbpldpaaGreatDoor
/- A line while only the root is open: no starter takes it, and a paragraph begins. -/








namespace Go.Proofs.YtmmijmhdbpldpaaGreatDoor
open Go.RowKit
/-- A line that is a paragraph's first one, whatever the options. -/
structure ParLine (s : ByteArray) : Prop where
  size : s.size ≤ 100000
  pos : 0 < s.size
  tab : ∀ k, bt s k ≠ 9
  q : ∀ k, Reach s 0 k → bt s k ≠ 62 ∧ bt s k ≠ 35
  h32 : bt s 0 ≠ 32
  hr : bt s 0 ≠ 42 ∧ bt s 0 ≠ 45 ∧ bt s 0 ≠ 95
  lt_ : bt s 0 ≠ 60
  fence : bt s 0 ≠ 126
  tick : bt s 0 ≠ 96
  item : ∀ (g b : Nat) (nl : Int) (w : World), IsLn w b 0 0 s nl → Calls Tryz.prog 139 #[.pointer (some ⟨g, 0, none⟩), .pointer (some ⟨b, 0, none⟩)] w fun e w' => e = .returned (.bool false) ∧ Below w.heap.size w w'
theorem reach0 {s : ByteArray} (h : bt s 0 ≠ 32) {k : Nat} (hk : Reach s 0 k) : k = 0 := by
  obtain ⟨_, _, _, h4⟩ := hk
  rcases Nat.eq_zero_or_pos k with h0 | h0
  · exact h0
  · exact absurd (h4 0 (Nat.le_refl _) h0) h
theorem trimL_self {l : List UInt8} (h : ∀ c, l[0]? = some c → c ≠ 32 ∧ c ≠ 9) : trimL l = l := by
  cases l with
  | nil => rfl
  | cons a t =>
    obtain ⟨h1, h2⟩ := h a rfl
    unfold trimL
    rw [List.dropWhile_cons, if_neg]
    unfold isST
    simp [h1, h2]
theorem ParLine.trim {s : ByteArray} (h : ParLine s) : trimL s.data.toList = s.data.toList := by
  refine trimL_self (fun c hc => ?_)
  obtain ⟨c', h1, h2⟩ := bt_at s h.pos
  rw [h1] at hc
  simp only [Option.some.injEq] at hc
  subst hc
  exact ⟨fun e => h.h32 (by rw [h2, e]; rfl), fun e => h.tab 0 (by rw [h2, e]; rfl)⟩
theorem ParLine.nblank {s : ByteArray} (h : ParLine s) (nl : Int) : (Ln.mk 0 s nl).blank = false := by
  unfold Ln.blank
  show (trimL (s.data.toList.drop 0)).isEmpty = false
  rw [List.drop_zero, h.trim]
  have h1 := h.pos
  rw [Lib.size_eq] at h1
  cases hh : s.data.toList with
  | nil => rw [hh] at h1; simp at h1
  | cons a t => rfl
set_option maxRecDepth 20000 in
set_option maxHeartbeats 1600000 in
/-- newListItem declines where startListItem does. -/
theorem newListItem_via (B g : Nat) (r : PSr) (e0 : Ent) (p : Option Addr) (nl : Int) (s : ByteArray) (w : World) (hps : IsPS w g r) (hst : IsStack w B r.stack ([] ++ [e0])) (hd : r.lineDepth = 0) (hb1 : e0.bt = 98) (hb2 : e0.bv = .pointer p)
    (_ : s.size ≤ 140737488355328) (hq : ∀ b w, IsLn w b 0 0 s nl → Calls Tryz.prog 139 #[.pointer (some ⟨g, 0, none⟩), .pointer (some ⟨b, 0, none⟩)] w fun e w' => e = .returned (.bool false) ∧ Below w.heap.size w w') :
    Calls Tryz.prog 89 #[.pointer (some ⟨g, 0, none⟩), lnV 0 0 s nl] w fun e w' => e = .returned (.tuple #[lnV 0 0 s nl, .bool false]) ∧ Below w.heap.size w w' := by
  have HQ := hid hq
  have HPS := hid hps
  have HST := hid hst
  have ta := ta_root_list p
  have hl1 := hps.lt
  clear hq hps hst
  go_enter Tryz.func89, Tryz.ntmps89
  go_wp2_with fail
  refine (curB_root B g r e0 _ ((HPS.out.alloc _).alloc _) ((HST.out.alloc _).alloc _) hd).mono ?_
  rintro e w1 ⟨rfl, n1, rfl⟩
  rw [hb1, hb2]
  go_wp2_with fail
  refine (HQ.out _ _ (Blk.drewN (Blk.alloc (Blk.new' rfl) _) n1)).mono ?_
  rintro e w1 ⟨rfl, hb⟩
  have hm2 := Mod.below' (S := fun _ => False) hb
  have hbox : IsLn w1 w.heap.size 0 0 s nl := (Blk.drewN (Blk.alloc (Blk.new' rfl) _) n1 : Blk _ w.heap.size 104 (lnC 0 0 s nl)).mod (S := fun _ => False) hm2 (fun h => h)
  have hres : Blk w1 (w.heap.size + 1) 104 #[.int .i64 0, .int .i64 0, .int .i64 0, .string ⟨#[]⟩, .int .u8 0] := (Blk.drewN (Blk.new' (by simp)) n1 : Blk _ (w.heap.size + 1) 104 #[.int .i64 0, .int .i64 0, .int .i64 0, .string ⟨#[]⟩, .int .u8 0]).mod (S := fun _ => False) hm2 (fun h => h)
  have hbel : Below w.heap.size w w1 := (below_drewN (((Below.refl _ _).alloc (Nat.le_refl _) _).alloc (by simp) _) n1).trans (hb.mono (by simp; omega))
  clear hb hm2
  have c0 := hbox.c0
  have c1 := hbox.c1
  have c2 := hbox.c2
  have c3 := hbox.c3
  have c4 := hbox.c4
  have r0 := hres.at_ 0 rfl
  have r1 := hres.at_ 1 rfl
  have r2 := hres.at_ 2 rfl
  have r3 := hres.at_ 3 rfl
  have r4 := hres.at_ 4 rfl
  have fr := hres.free
  have HR := hid hres
  have HB := hid hbel
  clear hbox hres hbel
  unfold lnV
  go_wp2_with fail
  have hln : Hid (IsLn _ (w.heap.size + 1) 0 0 s nl) := hid (ln_store HR.out 0 0 nl s)
  have hb2 : Hid (Below w.heap.size w _) := hid (((((HB.out.setCell (p := ⟨w.heap.size + 1, 0, none⟩) (by simp) (.int .i64 0)).setCell (p := ⟨w.heap.size + 1, 1, none⟩) (by simp) (.int .i64 (0 : Nat))).setCell (p := ⟨w.heap.size + 1, 2, none⟩) (by simp) (.int .i64 0)).setCell (p := ⟨w.heap.size + 1, 3, none⟩) (by simp) (.string s)).setCell (p := ⟨w.heap.size + 1, 4, none⟩) (by simp) (.int .u8 nl))
  generalize World.setCell _ ⟨w.heap.size + 1, 4, none⟩ _ = wy at hln hb2 ⊢
  clear c0 c1 c2 c3 c4 r0 r1 r2 r3 r4 fr
  have k0 := hln.out.c0
  have k1 := hln.out.c1
  have k2 := hln.out.c2
  have k3 := hln.out.c3
  have k4 := hln.out.c4
  refine bodyPost_ret (by simp [results, Tryz.results89, go_sem, k0, k1, k2, k3, k4]; try rfl) rfl ?_
  exact ⟨rfl, hb2.out⟩
/-- While the starters are asked. -/
def ParE (B g : Nat) (r : PSr) (e0 : Ent) (tbl : Bool) (w w' : World) : Prop :=
  IsPS w' g { r with lineDepth := 0 } ∧ IsStack w' B r.stack ([] ++ [e0]) ∧ w'.cell? ⟨r.parser, 5, none⟩ = some (.bool tbl) ∧ Mod (fun k => g ≤ k) w w'
theorem ParE.lnKept {base B g : Nat} {r : PSr} {e0 : Ent} {tbl : Bool} {w w1 w2 : World} (h : ParE B g r e0 tbl w w1) (hk : LnKept base w1 w2) (hg : g ≤ base) (hp : r.parser < g) : ParE B g r e0 tbl w w2 := by
  obtain ⟨h1, h2, h4, h5⟩ := h
  exact ⟨h1.lnKept hk, h2.lnKept hk, by rw [hk.cell (p := ⟨r.parser, 5, none⟩) (by show r.parser < _; exact Nat.lt_trans hp h1.lt) (fun ⟨x, _⟩ => by have : base ≤ r.parser := x; omega)]; exact h4, h5.lnKept hk hg⟩
def ParQ1 (B g : Nat) (r : PSr) (e0 : Ent) (txt : List UInt8) (w w' : World) : Prop :=
  ∃ st pb v, IsPS w' g { r with lineDepth := 0, stack := st } ∧ IsStack w' B st ([] ++ [e0] ++ [parE pb r.lineno r.lineno]) ∧ IsPara w' B pb v [lineV txt] ∧ v.n = 1 ∧ Mod (fun k => g ≤ k) w w'
set_option maxRecDepth 20000 in
theorem addLine_par0 (B g : Nat) (r : PSr) (a : Option Addr) (i0 : Sl) (tbl : Bool) (nl : Int) (s : ByteArray) (w : World) (hgB : g < B) (hB : B ≤ w.heap.size) (hps : IsPS w g r) (hst : IsStack w B r.stack ([] ++ [⟨98, .pointer a, i0, 0, 0⟩]))
    (hs : ParLine s) (hpg : r.parser < g) (htb : w.cell? ⟨r.parser, 5, none⟩ = some (.bool tbl)) :
    Calls Tryz.prog 54 #[.pointer (some ⟨g, 0, none⟩), lnV 0 0 s nl] w fun e w' => e = .returned (.tuple #[]) ∧ ParQ1 B g r ⟨98, .pointer a, i0, 0, 0⟩ s.data.toList w w' := by
  obtain ⟨sb, cap, cs0, hsh, hsbb, _, _, hBs⟩ := hst.shape (by simp)
  have hsh2 : r.stack = ⟨some ⟨sb, 0, none⟩, 1, cap⟩ := by rw [hsh]; rfl
  have hgs : g ≤ w.heap.size := Nat.le_of_lt hps.lt
  have hsz := hs.size
  generalize he0 : (⟨98, .pointer a, i0, 0, 0⟩ : Ent) = e0 at hst ⊢
  have hb1 : e0.bt = 98 := by rw [← he0]
  have hb2 : e0.bv = .pointer a := by rw [← he0]
  refine addLine_gen g sb cap 1 r.lineno
    (fun k l w' => k = 0 ∧ l = ⟨0, s, nl⟩ ∧ ParE B g r e0 tbl w w')
    (fun d l w' => d = 0 ∧ l = ⟨0, s, nl⟩ ∧ ParE B g r e0 tbl w w')
    (fun _ _ _ _ _ => False)
    (ParQ1 B g r e0 s.data.toList w) ⟨0, s, nl⟩ w r hps ⟨Nat.zero_le _, by show s.size ≤ 1000000; omega⟩ rfl ?_ ?_
  · have keepE : ∀ d l w1 w2, (d = 0 ∧ l = Ln.mk 0 s nl ∧ ParE B g r e0 tbl w w1) → LnKept w.heap.size w1 w2 → (d = 0 ∧ l = Ln.mk 0 s nl ∧ ParE B g r e0 tbl w w2) := fun d l w1 w2 ⟨h1, h2, h3⟩ hk => ⟨h1, h2, h3.lnKept hk hgs hpg⟩
    have atE : ∀ d l w', (d = 0 ∧ l = Ln.mk 0 s nl ∧ ParE B g r e0 tbl w w') → AtLine g sb cap 1 r.lineno d w' ∧ d < 1 := by
      rintro d l w' ⟨rfl, rfl, h1, h2, _⟩
      exact ⟨atLine_of h1 rfl rfl hsh2 h2 rfl (by omega) (by omega), by omega⟩
    refine { pos := by omega, atJ := atE, atP := ?_, atE := atE, keepJ := keepE, keepP := ?_, keepE := keepE, keepQ := ?_, ext := ?_, yes := ?_, no := ?_, last := ?_, blank := ?_, start := ?_ }
    · intro k l l' ok w' h; exact h.elim
    · intro k l l' ok w1 w2 h _; exact h
    · rintro w1 w2 ⟨st, pb, v, h1, h2, h3, h4, h5⟩ hk
      exact ⟨st, pb, v, h1.lnKept hk, h2.lnKept hk, h3.lnKept hk, h4, h5.lnKept hk hgs⟩
    · rintro k l w' ⟨rfl, _⟩ hkn
      omega
    · intro k l l' w' h; exact h.elim
    · intro k l l' w' h; exact h.elim
    · rintro l w' ⟨_, h2, h3⟩
      exact ⟨rfl, h2, h3⟩
    · rintro d l w' ⟨rfl, rfl, _⟩ hbl
      rw [hs.nblank] at hbl; cases hbl
    · intro d l hbl hok
      have fin : ∀ {w1 w2 : World} {e : Ending}, (e = .returned (.tuple #[lnV 0 0 s nl, .bool false]) ∧ Below w1.heap.size w1 w2) → e = .returned (.tuple #[(Ln.mk 0 s nl).v, .bool false]) ∧ LnKept w.heap.size w1 w2 ∧ ∀ lb cs, w.heap.size ≤ lb → Blk w1 lb 104 cs → Blk w2 lb 104 cs := fun ⟨h1, h2⟩ => ⟨h1, LnKept.below h2, fun lb cs _ hb => Blk.mod (S := fun _ => False) hb (Mod.below' h2) (fun x => x)⟩
      refine ⟨8, Nat.le_refl _, ?_, ?_, ?_⟩
      · rintro i f w' hi hf ⟨rfl, rfl, hp, hst', htb', hm⟩
        have h8 : i = 0 ∨ i = 1 ∨ i = 2 ∨ i = 3 ∨ i = 4 ∨ i = 5 ∨ i = 6 ∨ i = 7 := by omega
        rcases h8 with rfl | rfl | rfl | rfl | rfl | rfl | rfl | rfl
        · cases hf
          exact (newQuote_no2 g 0 0 nl s w' (by omega) (Nat.zero_le _) hs.tab (fun k hk => (hs.q k hk).1)).mono (fun _ _ => fin)
        · cases hf
          exact (newATX_no2 g 0 0 nl s w' (by omega) (Nat.zero_le _) hs.tab (fun k hk => (hs.q k hk).2)).mono (fun _ _ => fin)
        · cases hf
          exact (newSetext_no B g 0 _ [] e0 a 0 nl s w' hp hst' (by simp) (by rw [hsh2]; rfl) hb1 hb2).mono (fun _ _ => fin)
        · cases hf
          exact (newHR_no g 0 0 nl s w' (by omega) (Nat.zero_le _) hs.tab (fun k hk => by rw [reach0 hs.h32 hk]; exact hs.hr)).mono (fun _ _ => fin)
        · cases hf
          exact (newListItem_via B g _ e0 a nl s w' hp hst' rfl hb1 hb2 (by omega) (fun b w2 h => hs.item g b nl w2 h)).mono (fun _ _ => fin)
        · cases hf
          exact (newHTML_no g 0 0 nl s w' (by omega) (Nat.zero_le _) hs.tab (fun k hk => by rw [reach0 hs.h32 hk]; exact hs.lt_)).mono (fun _ _ => fin)
        · cases hf
          exact (newFence_no g 0 0 nl s w' (by omega) (Nat.zero_le _) hs.tab (fun k hk => by rw [reach0 hs.h32 hk]; exact ⟨hs.tick, hs.fence⟩)).mono (fun _ _ => fin)
        · cases hf
          exact (newPre_no B g _ e0 a nl s w' hp hst' hb1 hb2 (by omega) hs.pos hs.tab hs.h32).mono (fun _ _ => fin)
      · rintro f w' hf
        cases hf
      · rintro _ w' ⟨rfl, rfl, hp, hst', htb', hm⟩
        refine (newPara_yes B g _ e0 a 0 nl tbl s w' (Nat.le_trans hB hm.size) hp hst' rfl hb1 hb2 (by omega) (Nat.zero_le _) htb').mono ?_
        rintro e w2 ⟨rfl, st, pb, v, q1, q2, q3, q4, _, q6⟩
        rw [List.drop_zero, hs.trim] at q3
        refine ⟨⟨_, rfl⟩, st, pb, v, q1, q2, q3, q4, hm.trans q6 (fun k hk e => ?_)⟩
        rcases e with e | e
        · omega
        · have := ownBase hst'.2 e; omega
  · refine ⟨rfl, rfl, hps.set5 0, hst.far (p := ⟨g, 5, none⟩) (own_ne hst.2 hps (by decide)) _, ?_, (Mod.refl _ _).setCell (p := ⟨g, 5, none⟩) (.inl (Nat.le_refl _)) _⟩
    rw [((Mod.refl (fun k => k = g) w).setCell (p := ⟨g, 5, none⟩) (.inl rfl) (.int .i64 0)).cell (p := ⟨r.parser, 5, none⟩) (by show r.parser < _; have := hps.lt; omega) (by show ¬ r.parser = g; omega)]
    exact htb
end Go.Proofs.YtmmijmhdbpldpaaGreatDoor
/- A parse, whatever its lines do; where the texts lie is known when the blocks are closed. -/

namespace Go.Proofs.YtmmijmhdbpldpaaGreatDoor
open Go.RowKit
structure ParseH2 (pb g : Nat) (m : Nat) (Inv : List UInt8 → Nat → World → Prop) (Fin : Option Addr → Nat → World → Prop) (L : Nat) : Prop where
  line : ∀ l n w, Inv l n w → l ≠ [] → l.length ≤ L → (∃ r, IsPS w g r ∧ r.lineno = n) ∧ n + l.length ≤ 1000000 ∧
    Calls Tryz.prog 54 #[.pointer (some ⟨g, 0, none⟩), .agg #[.int .i64 0, .int .i64 0, .int .i64 0, .string ⟨(nextLine l).1.toArray⟩, .int .u8 (nextLine l).2.1]] (w.setCell ⟨g, 3, none⟩ (.int .i64 ((n : Int) + 1)))
      (fun e w' => e = .returned (.tuple #[]) ∧ Inv (nextLine l).2.2 (n + 1) w')
  drew : ∀ l n w k, Inv l n w → Inv l n (w.drewN k)
  trim : ∀ n w, Inv [] n w → Calls Tryz.prog 55 #[.pointer (some ⟨g, 0, none⟩), .int .i64 0] w (fun e w' => e = .returned (.tuple #[]) ∧ ∃ ta, Fin ta 0 w')
  at_ : ∀ ta k w, Fin ta k w → m ≤ 1000000 ∧ ∃ r c, IsPS w g r ∧ r.texts = ⟨ta, m, c⟩ ∧ w.cell? ⟨pb, 2, none⟩ = some (.bool false)
  text : ∀ ta k w, Fin ta k w → k < m → ∃ ab ao tb raw, ta = some ⟨ab, ao, none⟩ ∧ w.cell? ⟨ab, ao + k, none⟩ = some (.pointer (some ⟨tb, 0, none⟩)) ∧ w.cell? ⟨tb, 3, none⟩ = some (.string raw) ∧
    Calls Tryz.prog 56 #[.pointer (some ⟨g, 0, none⟩), .string raw] w (fun e w' => ∃ a n c, e = .returned (.slice a n c) ∧ (∃ v, w'.cell? ⟨tb, 2, none⟩ = some v) ∧ w'.frozen? ⟨tb, 2, none⟩ = false ∧ Fin ta (k + 1) (w'.setCell ⟨tb, 2, none⟩ (.slice a n c)))

def ParseP2 (g m : Nat) (Fin : Option Addr → Nat → World → Prop) (e : Ending) (w' : World) : Prop := ∃ ta r k, e = .returned (.tuple #[.pointer r.root, .bool r.corner]) ∧ IsPS w' g r ∧ ∃ w0, Fin ta m w0 ∧ w' = w0.drewN k

set_option maxRecDepth 20000 in
set_option maxHeartbeats 4000000 in
theorem parse_gen2 (pb : Nat) (l0 : List UInt8) (w : World) (m : Nat) (Inv : List UInt8 → Nat → World → Prop) (Fin : Option Addr → Nat → World → Prop) (hl : l0.length ≤ 1000000)
    (hno : idxB 0 l0 = -1)
    (H : ParseH2 pb w.heap.size m Inv Fin l0.length)
    (h0 : ∀ w' bn, IsPS w' w.heap.size (ps0 pb) → Below w.heap.size w w' →
      Calls Tryz.prog 52 #[.pointer (some ⟨w.heap.size, 0, none⟩), .iface 98 (.pointer (some ⟨bn, 0, none⟩))] w' (fun e w1 => e = .returned (.tuple #[]) ∧ Inv l0 0 w1)) :
    Calls Tryz.prog 43 #[.pointer (some ⟨pb, 0, none⟩), .string ⟨l0.toArray⟩] w (ParseP2 w.heap.size m Fin) := by
  have HH := hid H
  have H0 := hid h0
  clear H h0
  have hno' : (0 ≤ idxB 0 l0) = False := by rw [hno]; simp
  go_enter Tryz.func43, Tryz.ntmps43
  go_wp2_with (first | (go_at_call 50; refine (zzContains1 ⟨l0.toArray⟩ 0 _ (bsz (by omega))).mono ?_; rintro e w' ⟨rfl, rfl⟩))
  go_wp2_with fail
  refine (H0.out _ (w.heap.size + 1) ?_ ?_).mono ?_
  · rw [zero_ps]; exact Blk.alloc (Blk.new _ _ _) _
  · exact ((Below.refl _ _).alloc (Nat.le_refl _) _).alloc (by simp) _
  rintro e w1 ⟨rfl, hinv⟩
  have HI := hid hinv
  clear hinv
  go_wp2_with fail
  go_loopw [1] (fun t wr => LoopR Inv l0.length t wr) (fun t _ => strLen t)
  case atStart => exact ⟨l0, 0, rfl, Nat.le_refl _, HI.out⟩
  case round =>
    obtain ⟨l, n, rfl, hll, hinv⟩ := hrel
    have HV := hid hinv
    clear hinv
    by_cases hnil : l = []
    · subst hnil
      go_wp2_with (go_at_call 55; refine (HH.out.trim n wr HV.out).mono ?_; rintro e w2 ⟨rfl, ta, hfin⟩; have HF := hid hfin; clear hfin; obtain ⟨hm, r, c, hps, htx, hpar⟩ := HH.out.at_ ta 0 w2 HF.out; have c11 := hps.c11; rw [htx] at c11; have HTX := hid htx; clear htx)
      go_loopw [83] (fun i wr => TextR (Fin ta) m i wr) (fun i _ => m - (intOf i).toNat)
      case atStart => exact ⟨0, Nat.zero_le _, rfl, HF.out⟩
      case round =>
        clear c11 hpar hps
        obtain ⟨k, hk, rfl, hfin⟩ := hrel
        obtain ⟨_, r1, c1, hps1, htx1, hpar1⟩ := HH.out.at_ ta k wr hfin
        have HF1 := hid hfin
        have HT1 := hid htx1
        clear hfin htx1
        by_cases hkm : k < m
        · obtain ⟨ab, ao, tb, raw, hta, ca, cb, hc⟩ := HH.out.text ta k wr HF1.out hkm
          subst hta
          have HC := hid hc
          clear hc
          go_wp2_with (go_at_call 56; refine HC.out.mono ?_; rintro e w3 ⟨a3, n3, c3, rfl, ⟨v3, cv3⟩, fv3, hfin3⟩; have HF3 := hid hfin3; clear hfin3)
          go_roundw
          case rel => exact ⟨k + 1, by omega, by go_num, HF3.out⟩
          case measure => simp [intOf]; omega
        · obtain rfl : k = m := by omega
          have c1 := hps1.c1
          have c6 := hps1.c6
          have c0 := hps1.c0
          have HP1 := hid hps1
          clear hps1
          go_wp2
          go_quiet (fail)
          go_wp2
          go_ret2
          exact ⟨ta, r1, _, rfl, HP1.out.drewN _, _, HF1.out, rfl⟩
    · have hne : l.isEmpty = false := by cases l with | nil => exact absurd rfl hnil | cons a b => rfl
      have HNIL := hid hnil
      clear hnil
      go_upto_block 2 with (first | (go_at_call 53; refine (zzIndex1 ⟨l.toArray⟩ _ _ (bsz (by omega))).mono ?_; rintro e w' ⟨rfl, rfl⟩))
      have bi := idxB_lt l 10
      have bj := idxB_lt l 13
      have NL := hid (show nextLine l = _ from rfl)
      go_cut [1, 7, 10] (fun t ln nl wx => CutR l wr t ln nl wx)
      case first =>
        by_cases h1 : 0 ≤ idxB 13 l
        · by_cases h2 : idxB 10 l < 0
          · have HN := hid (show nextLine l = (l.take (idxB 13 l).toNat, 13, l.drop ((idxB 13 l).toNat + 1)) by unfold nextLine; rw [if_pos ⟨h1, .inl h2⟩, if_neg (by omega)])
            have h3 : ¬ idxB 10 l = idxB 13 l + 1 := by omega
            go_wp2
            go_meet
            case rel => exact ⟨by rw [HN.out, show (idxB 13 l + 1).toNat = (idxB 13 l).toNat + 1 from by omega, ex_from], by rw [HN.out, ex_to], by rw [HN.out]; rfl, 0, rfl⟩
          · by_cases h3 : idxB 13 l < idxB 10 l
            · by_cases h4 : idxB 10 l = idxB 13 l + 1
              · have HN := hid (show nextLine l = (l.take (idxB 13 l).toNat, 23, l.drop ((idxB 13 l).toNat + 2)) by unfold nextLine; rw [if_pos ⟨h1, .inr h3⟩, if_pos h4])
                have H4 := hid h4
                have h5 : (idxB 10 l == idxB 13 l + 1) = true := by simpa using h4
                clear h4
                have h6 : idxB 13 l + 2 ≤ l.length := by have := H4.out; omega
                go_wp2
                go_meet
                case rel => exact ⟨by rw [HN.out, show (idxB 13 l + 2).toNat = (idxB 13 l).toNat + 2 from by omega, ex_from], by rw [HN.out, ex_to], by rw [HN.out]; rfl, 0, rfl⟩
              · have HN := hid (show nextLine l = (l.take (idxB 13 l).toNat, 13, l.drop ((idxB 13 l).toNat + 1)) by unfold nextLine; rw [if_pos ⟨h1, .inr h3⟩, if_neg h4])
                go_wp2
                go_meet
                case rel => exact ⟨by rw [HN.out, show (idxB 13 l + 1).toNat = (idxB 13 l).toNat + 1 from by omega, ex_from], by rw [HN.out, ex_to], by rw [HN.out]; rfl, 0, rfl⟩
            · have HN := hid (show nextLine l = (l.take (idxB 10 l).toNat, 10, l.drop ((idxB 10 l).toNat + 1)) by unfold nextLine; rw [if_neg (by omega), if_pos (by omega)])
              go_wp2
              go_quiet (fail)
              go_wp2
              go_meet
              case rel => exact ⟨by rw [HN.out, show (idxB 10 l + 1).toNat = (idxB 10 l).toNat + 1 from by omega, ex_from], by rw [HN.out, ex_to], by rw [HN.out]; rfl, _, rfl⟩
        · by_cases h2 : 0 ≤ idxB 10 l
          · have HN := hid (show nextLine l = (l.take (idxB 10 l).toNat, 10, l.drop ((idxB 10 l).toNat + 1)) by unfold nextLine; rw [if_neg (by omega), if_pos h2])
            go_wp2
            go_quiet (fail)
            go_wp2
            go_meet
            case rel => exact ⟨by rw [HN.out, show (idxB 10 l + 1).toNat = (idxB 10 l).toNat + 1 from by omega, ex_from], by rw [HN.out, ex_to], by rw [HN.out]; rfl, _, rfl⟩
          · have HN := hid (show nextLine l = (l, 0, []) by unfold nextLine; rw [if_neg (by omega), if_neg h2])
            go_wp2
            go_meet
            case rel => exact ⟨by rw [HN.out], by rw [HN.out], by rw [HN.out]; rfl, 0, rfl⟩
      case rest =>
        obtain ⟨rfl, rfl, rfl, k, rfl⟩ := hcut
        obtain ⟨⟨r, hps, hln⟩, hb, hc⟩ := HH.out.line l n _ (HH.out.drew l n wr k HV.out) HNIL.out (by omega)
        have c3 := hps.c3
        rw [hln] at c3
        have f1 := hps.free
        have HC := hid hc
        have NR := nextLine_rest l HNIL.out
        clear hc hln
        go_wp2_with (go_at_call 54; refine HC.out.mono ?_; rintro e w2 ⟨rfl, hinv2⟩; have HI2 := hid hinv2; clear hinv2)
        go_roundw
        case rel => exact ⟨_, n + 1, rfl, by omega, HI2.out⟩
        case measure => show (nextLine l).2.2.toArray.size < l.toArray.size; simpa using NR

end Go.Proofs.YtmmijmhdbpldpaaGreatDoor
/- HTML of a paragraph. -/

namespace Go.Proofs.YtmmijmhdbpldpaaGreatDoor
open Go.RowKit
def paraOut (out : List UInt8) : List UInt8 := [60, 112, 62] ++ out ++ [60, 47, 112, 62, 10]
set_option maxRecDepth 20000 in
set_option maxHeartbeats 1600000 in
theorem paraHTML_any (B b d tb base : Nat) (bs : List UInt8) (sl el sl2 el2 : Int) (raw : Value) (inner : Sl) (ys : List Value) (outs : List (List UInt8)) (w : World)
    (hd : Blk w d 155 #[.int .i64 sl, .int .i64 el, .pointer (some ⟨tb, 0, none⟩)])
    (hblk : Blk w tb 110 #[.int .i64 sl2, .int .i64 el2, inner.v, raw]) (hrow : w.ownsRow base 132 1 inner.v inner.n ys) (hn : inner.n ≤ 1000000) (hbne : tb ≠ b) (hbnd : d ≠ b)
    (hbuf : IsBuf B b bs w) (hB : B ≤ w.heap.size) (hlo : outs.length = ys.length) (hp : ∀ (i : Nat) y o bs', ys[i]? = some y → outs[i]? = some o → Prints w b bs' y o) (hl : bs.length + (paraOut outs.flatten).length ≤ 1000000) :
    Calls Tryz.prog 274 #[.pointer (some ⟨d, 0, none⟩), .pointer (some ⟨b, 0, none⟩)] w (PrintP B b bs (paraOut outs.flatten) w) := by
  have hlen : bs.length + outs.flatten.length + 8 ≤ 1000000 := by
    unfold paraOut at hl
    simp only [List.length_append, List.length_cons, List.length_nil] at hl
    omega
  have HD := hid hd
  have HBLK := hid hblk
  have HROW := hid hrow
  have HBUF := hid hbuf
  have HP := hid hp
  have HLO := hid hlo
  clear hd hblk hrow hbuf hp hlo hl
  go_enter Tryz.func274, Tryz.ntmps274
  go_wp2_with fail
  refine (write_str B b bs ⟨#[60, 112, 62]⟩ w HBUF.out hB (by show bs.length + 3 ≤ 2000000; omega)).mono ?_
  rintro e w1 ⟨rfl, hb1, hbl1, hk1⟩
  have hd1 := HD.out.kept hk1 hbnd (by decide)
  have c2 := hd1.at_ 2 rfl
  have HB1 := hid hb1
  have HBL1 := hid hbl1
  have HK1 := hid hk1
  have hzl : (bs ++ (ByteArray.mk #[60, 112, 62]).data.toList).length = bs.length + 3 := by simp
  have hrb : some b ≠ inner.v.ownBlock := by
    obtain ⟨cs, hcs⟩ := HBUF.out.blk
    exact own_ne HROW.out hcs (by decide)
  clear hb1 hbl1 hk1 hd1
  go_wp2_with fail
  refine (textHTML_any B b tb base (bs ++ [60, 112, 62]) sl2 el2 raw inner ys outs w1 (HBLK.out.kept HK1.out hbne (by decide)) (own_kept HROW.out HK1.out hrb (by decide)) hn HB1.out (Nat.le_trans hB HBL1.out.size) HLO.out (fun i y o hy ho => (HP.out i y o _ hy ho).kept HK1.out) (by rw [List.length_append]; show bs.length + 3 + _ ≤ _; omega)).mono ?_
  rintro e w2 ⟨rfl, hb2, hbl2, hk2⟩
  have HB2 := hid hb2
  have HBL2 := hid (HBL1.out.trans hbl2)
  have HK2 := hid (Lib.OthersKept.trans HK1.out hk2)
  clear hb2 hbl2 hk2 HB1 HBL1 HK1
  go_wp2_with fail
  refine (write_str B b (bs ++ [60, 112, 62] ++ outs.flatten) ⟨#[60, 47, 112, 62, 10]⟩ w2 HB2.out (Nat.le_trans hB HBL2.out.size) (by rw [List.length_append, List.length_append]; show bs.length + 3 + _ + 5 ≤ _; omega)).mono ?_
  rintro e w3 ⟨rfl, hb3, hbl3, hk3⟩
  have HB3 := hid hb3
  have HBL3 := hid (HBL2.out.trans hbl3)
  have HK3 := hid (Lib.OthersKept.trans HK2.out hk3)
  clear hb3 hbl3 hk3
  go_wp2_with fail
  go_end0
  refine ⟨rfl, ?_, HBL3.out, HK3.out⟩
  have := HB3.out
  unfold paraOut
  simpa [List.append_assoc] using this
end Go.Proofs.YtmmijmhdbpldpaaGreatDoor
/- The HTML of a text, whatever its parse hands back. -/



namespace Go.Proofs.YtmmijmhdbpldpaaGreatDoor
open Go.RowKit
def rootF (a : Option Addr) (v : Sl) : Ent := ⟨98, .pointer a, v, 0, 0⟩
set_option maxRecDepth 20000 in
/-- The HTML of a text, whatever its parse hands back; the parser's world is one behind w. -/
theorem HTML_gen2 (o : Opt) (s : ByteArray) (w : World) (out : List UInt8)
    (hP : ∀ g w1, Below w.heap.size w w1 → Blk w1 g 77 o.parser → Calls Tryz.prog 29 #[.pointer (some ⟨g, 0, none⟩), .string s] w1 (ParsedDoc w1 out)) :
    Calls Tryz.prog 11 #[o.v, .string s] w fun e w' => e = .returned (.string ⟨out.toArray⟩) ∧ Below w.heap.size w w' := by
  have HP := hid hP
  clear hP
  obtain ⟨o0, o1, o2, o3, o4, o5, o6, o7, o8, o9⟩ := o
  have hv : (Opt.mk o0 o1 o2 o3 o4 o5 o6 o7 o8 o9).v = .agg #[.bool o0, .bool o1, .bool o2, .bool o3, .bool o4, .bool o5, .bool o6, .bool o7, .bool o8, .bool o9] := rfl
  rw [hv]
  go_enter Tryz.func11, Tryz.ntmps11
  go_wp2_with fail
  refine (parser_any ⟨o0, o1, o2, o3, o4, o5, o6, o7, o8, o9⟩ _).mono ?_
  rintro e w1 ⟨g, rfl, hg, hblk, hb⟩
  have HB := hid hb
  have HBL := hid hblk
  have HBW := hid (((Below.refl w.heap.size w).alloc (Nat.le_refl _) _).trans (hb.mono (by simp)))
  clear hblk hb
  go_wp2_with fail
  refine (HP.out g _ HBW.out HBL.out).mono ?_
  rintro e w2 ⟨d, rfl, hd, hb2⟩
  have HB2 := hid hb2
  have HD := hid hd
  clear hb2 hd
  go_wp2_with fail
  refine (toHTML_doc d out _ HD.out).mono ?_
  rintro e w3 ⟨rfl, hb3⟩
  have HB3 := hid hb3
  clear hb3
  go_wp2_with fail
  go_ret
  exact ⟨rfl, ((((Below.refl _ _).alloc (Nat.le_refl _) _).trans (HB.out.mono (by simp))).trans (HB2.out.mono (Nat.le_trans (by simp) HB.out.size))).trans (HB3.out.mono (Nat.le_trans (Nat.le_trans (by simp) HB.out.size) HB2.out.size))⟩
end Go.Proofs.YtmmijmhdbpldpaaGreatDoor
/- A text of one line that is a paragraph: its document, and its HTML. -/







namespace Go.Proofs.YtmmijmhdbpldpaaGreatDoor
open Go.RowKit
theorem sz_mk (l : List UInt8) : (ByteArray.mk l.toArray).size = l.length := List.size_toArray ..
def parV (k : Nat) : Value := .iface 153 (.pointer (some ⟨k, 0, none⟩))
/-- A paragraph whose text holds a list that prints. -/
def IsPar (w : World) (B k tb : Nat) (out : List UInt8) : Prop :=
  ∃ (sl el sl2 el2 : Int) (raw : Value) (l : Sl) (vs : List Value) (outs : List (List UInt8)), Blk w k 155 #[.int .i64 sl, .int .i64 el, .pointer (some ⟨tb, 0, none⟩)] ∧ Blk w tb 110 #[.int .i64 sl2, .int .i64 el2, l.v, raw] ∧
    w.ownsRow B 132 1 l.v l.n vs ∧ l.n ≤ 1000000 ∧ ItemsS B w vs outs ∧ outs.flatten = out
theorem IsPar.drewN {w : World} {B k tb : Nat} {out : List UInt8} (h : IsPar w B k tb out) (n : Nat) : IsPar (w.drewN n) B k tb out := by
  obtain ⟨sl, el, sl2, el2, raw, l, vs, outs, hblk, htx, hrow, hn, hits, ho⟩ := h
  exact ⟨sl, el, sl2, el2, raw, l, vs, outs, hblk.drewN n, htx.drewN n, World.ownsRow.drewN hrow n, hn, hits.mod ((Mod.refl (fun _ => False) w).drewN n) (fun _ _ _ _ _ _ _ x => x), ho⟩
theorem par_prints (w : World) (B b k tb : Nat) (bs out : List UInt8) (hb : w.heap.size ≤ b) (h : IsPar w B k tb out) : Prints w b bs (parV k) (paraOut out) := by
  obtain ⟨sl, el, sl2, el2, raw, l, vs, outs, hblk, htx, hrow, hn, hits, rfl⟩ := h
  refine ⟨_, _, 274, .pointer (some ⟨k, 0, none⟩), rfl, fun W => by kernel_rfl, Go.Proofs.enters_of Tryz.func274 (by kernel_rfl) rfl, fun B' W hk hbf hB hl => ?_⟩
  have h1 := hblk.lt
  have h2 := htx.lt
  refine paraHTML_any B' b k tb B bs sl el sl2 el2 raw l vs outs W (hblk.kept hk (by omega) (by decide)) (htx.kept hk (by omega) (by decide)) (own_kept hrow hk (fun e => by have := ownLt hrow e; omega) (by decide)) hn (by omega) (by omega) hbf hB hits.1 (fun i y x bs' hy hx => ((hits.2 i y x hy hx).prints b bs' hb).kept hk) (by omega)
theorem own_base {w : World} {b b2 : Nat} {e : TypeId} {size n : Nat} {v : Value} {xs : List Value} (h : w.ownsRow b e size v n xs) (hb : b2 ≤ b) : w.ownsRow b2 e size v n xs := by
  refine ⟨h.1, ?_⟩
  rcases h.2 with h2 | ⟨g, cap, cur, h3, h4, h5⟩
  · exact .inl h2
  · exact .inr ⟨g, cap, cur, h3, Nat.le_trans hb h4, h5⟩
theorem IsItems.base {w : World} {b b2 : Nat} {vs : List Value} {ks : List Kind} (h : IsItems w b vs ks) (hb : b2 ≤ b) : IsItems w b2 vs ks :=
  ⟨h.1, fun j v k hv hk => by
    obtain ⟨p, h1, h2, h3⟩ := h.2 j v k hv hk
    exact ⟨p, h1, h2, Nat.le_trans hb h3⟩⟩
def ParInv (pb g : Nat) (w0 : World) (o : Opt) (s : List UInt8) (l : List UInt8) (n : Nat) (w : World) : Prop :=
  Below g w0 w ∧ Blk w pb 77 o.parser ∧ ∃ (st : Sl) (a : Option Addr),
    (l = s ∧ n = 0 ∧ IsPS w g { ps0 pb with stack := st } ∧ IsStack w (g + 1) st ([] ++ [rootF a Sl.nil])) ∨
    (∃ (qb : Nat) (v : Sl), l = [] ∧ n = 1 ∧ IsPS w g { ps0 pb with lineno := 1, lineDepth := 0, stack := st } ∧ IsStack w (g + 1) st ([] ++ [rootF a Sl.nil] ++ [parE qb 1 1]) ∧ IsPara w (g + 1) qb v [lineV s] ∧ v.n = 1)
def ParFin (pb g : Nat) (w0 : World) (o : Opt) (s out : List UInt8) (ta : Option Addr) (k : Nat) (w : World) : Prop :=
  Below g w0 w ∧ Blk w pb 77 o.parser ∧ ∃ (r : PSr) (d kb tb ab : Nat) (v1 : Sl) (tc : Nat) (lk : Option Nat), IsPS w g r ∧ r.parser = pb ∧ r.root = some ⟨d, 0, none⟩ ∧ ta = some ⟨ab, 0, none⟩ ∧ r.texts = ⟨ta, 1, tc⟩ ∧ w.ownsRow (g + 1) 105 1 r.texts.v 1 [.pointer (some ⟨tb, 0, none⟩)] ∧
    Blk w d 339 #[.int .i64 0, .int .i64 0, v1.v, .map lk] ∧ v1.n = 1 ∧ w.ownsRow (g + 1) 69 1 v1.v 1 [parV kb] ∧ g < tb ∧
    ((k = 0 ∧ r.back.length = 81 ∧ r.links = none ∧ ∃ (sl el sl2 el2 : Int), Blk w kb 155 #[.int .i64 sl, .int .i64 el, .pointer (some ⟨tb, 0, none⟩)] ∧ Blk w tb 110 #[.int .i64 sl2, .int .i64 el2, .slice none 0 0, .string ⟨s.toArray⟩]) ∨
     (k = 1 ∧ IsPar w (g + 1) kb tb out))
theorem parser_no2 (o : Opt) {w : World} {pb : Nat} (h : Blk w pb 77 o.parser) (ht : o.tasks = false) : w.cell? ⟨pb, 2, none⟩ = some (.bool false) := by
  rw [h.cell]; unfold Opt.parser; rw [ht]; rfl
set_option maxRecDepth 20000 in
theorem parH (pb g : Nat) (w0 : World) (o : Opt) (s out : List UInt8) (hs : ParLine ⟨s.toArray⟩) (hno : 10 ∉ s ∧ 13 ∉ s) (href : RefNo s) (hpb : pb < g) (hi : InlC0 o s out) (ht : o.tasks = false) : ParseH2 pb g 1 (ParInv pb g w0 o s) (ParFin pb g w0 o s out) s.length where
  line := by
    intro l n w ⟨hb, hpar, st, a, h⟩ hne hll
    rcases h with ⟨rfl, rfl, hps, hst⟩ | ⟨_, _, h, _⟩
    · have hsz := hs.size
      have hsl : l.length ≤ 100000 := by rw [sz_mk] at hsz; exact hsz
      have hg := hps.lt
      refine ⟨⟨_, hps, rfl⟩, by omega, ?_⟩
      have hnl : nextLine l = (l, 0, []) := by
        unfold nextLine
        rw [idxB_not _ _ hno.2, idxB_not _ _ hno.1]
        rfl
      rw [hnl]
      have hne2 : some g ≠ st.v.ownBlock := own_ne hst.2 hps (by decide)
      have hpar3 := hpar.far (p := ⟨g, 3, none⟩) (Blk.ne_ hpar hps (by decide)) (.int .i64 ((0 : Nat) + 1))
      refine (addLine_par0 (g + 1) g { ps0 pb with lineno := 1, stack := st } a Sl.nil o.tables 0 ⟨l.toArray⟩ _ (Nat.lt_succ_self _) (by simp; exact hg) (hps.set3 _) (hst.far (p := ⟨g, 3, none⟩) hne2 _) hs hpb (hpar3.at_ 5 rfl)).mono ?_
      rintro e w' ⟨rfl, st2, qb, v, h1, h2, h3, h4, hm⟩
      refine ⟨rfl, ?_, ?_, st2, a, .inr ⟨qb, v, rfl, rfl, h1, h2, h3, h4⟩⟩
      · exact (hb.setCell (p := ⟨g, 3, none⟩) (Nat.le_refl _) _).trans (hm.toBelow (B := g) (by simp; exact Nat.le_of_lt hg) (fun k hk e => by omega))
      · exact hpar3.mod hm (by omega)
    · exact absurd h hne
  drew := by
    intro l n w k ⟨hb, hpar, st, a, h⟩
    refine ⟨below_drewN hb k, hpar.drewN k, st, a, ?_⟩
    rcases h with ⟨h1, h2, hps, hst⟩ | ⟨qb, v, h1, h2, hps, hst, ⟨q1, q2, q3⟩, h4⟩
    · exact .inl ⟨h1, h2, hps.drewN k, hst.drewN k⟩
    · exact .inr ⟨qb, v, h1, h2, hps.drewN k, hst.drewN k, ⟨q1.drewN k, World.ownsRow.drewN q2 k, q3⟩, h4⟩
  trim := by
    intro n w ⟨hb, hpar, st, a, h⟩
    rcases h with ⟨h1, _, _, _⟩ | ⟨qb, v, h1, h2, hps, hst, hp, h4⟩
    · exfalso
      have := hs.pos
      subst h1
      simp [ByteArray.size] at this
    · have hg := hps.lt
      have hsz := hs.size
      have hpo := hs.pos
      have hj : joinT [⟨s.toArray⟩] = s := by unfold joinT; rw [List.map_cons, List.map_nil, Lib.join_cons]; simp [Lib.joinTail]
      have hH : ParaHead (joinT [⟨s.toArray⟩]) := by
        rw [hj]
        rw [sz_mk] at hpo hsz
        exact ⟨hpo, by omega, href⟩
      refine (trim_leaf0 (g + 1) g _ a Sl.nil 0 0 (parE qb 1 1) [] 153 _ w hps hst (closePara_any (g + 1) g qb _ (rootF a Sl.nil) [] v [⟨s.toArray⟩] [] 1 1 w hg hps hst (World.ownsRow_nil _ _ _ _) (by show 0 ≤ 1000000; omega) hp h4 (World.ownsRow_nil _ _ _ _) (by show 0 ≤ 1000000; omega) (by omega) (by simp) (by simp) hH)).mono ?_
      rintro e w' ⟨rfl, r', kb, w1, v1, st2, d, ⟨tb, l, rfl, q1, q2, q3, q4, q5, q6, q7⟩, hd, hps2, hv1, hrow, hdoc, hm⟩
      rw [hj] at q4
      have hbel : Below g w w' := (q7.toBelow (B := g) (Nat.le_of_lt hg) (fun k hk e => by
          rcases e with e | e
          · omega
          · cases e)).trans (hm.toBelow (B := g) (Nat.le_trans (Nat.le_of_lt hg) q7.size) (fun k hk e => by
          rcases e with e | e | e
          · omega
          · have := ownBase hst.2 e; omega
          · cases e))
      obtain ⟨la, ln, lc⟩ := l
      obtain rfl : ln = 1 := q6
      have hst1 := hst.mod q7 (fun k hk e => by
        rcases e with e | e
        · subst e; exact own_ne hst.2 hps (by decide) hk.symm
        · cases e)
      have h5 : w1.ownsRow (g + 1) 105 1 (.slice la 1 lc) 1 [.pointer (some ⟨tb, 0, none⟩)] := q5
      have hrowt : w'.ownsRow (g + 1) 105 1 (.slice la 1 lc) 1 [.pointer (some ⟨tb, 0, none⟩)] := by
        refine own_mod h5 hm (fun q hq e => ?_)
        rcases e with e | e | e
        · have := ownBase h5 hq.symm; omega
        · exact ownApart h5 hst1.2 (by decide) hq e.symm
        · cases e
      obtain ⟨ab, cs, hab, _⟩ := row_blk hrowt (Nat.succ_pos 0)
      have hv1' : v1.n = 1 := hv1
      rw [hv1'] at hrow
      have kp := q3.mod hm (fun e => by
        rcases e with e | e | e
        · omega
        · exact own_ne hst1.2 q3 (by decide) e
        · cases e)
      have kt := q4.mod hm (fun e => by
        rcases e with e | e | e
        · omega
        · exact own_ne hst1.2 q4 (by decide) e
        · cases e)
      exact ⟨rfl, la, hb.trans hbel, hpar.mod (Mod.below hbel (S := fun k => g ≤ k) (fun k _ h => h)) (by omega), _, d, kb, tb, ab, v1, lc, _, hps2, rfl, rfl, hab, rfl, hrowt, hdoc, hv1', hrow, by omega, .inl ⟨rfl, rfl, rfl, _, _, _, _, kp, kt⟩⟩
  at_ := by
    intro ta k w ⟨hb, hpar, r, d, kb, tb, ab, v1, tc, lk, hps, hrp, hroot, hta, htx, _⟩
    exact ⟨by omega, r, tc, hps, htx, parser_no2 o hpar ht⟩
  text := by
    intro ta k w ⟨hb, hpar, r, d, kb, tb, ab, v1, tc, lk, hps, hrp, hroot, hta, htx, hrt, hdoc, hv1, hrow, hgt, hk⟩ hk1
    rcases hk with ⟨rfl, hbk, hlk, sl, el, sl2, el2, hkp, hkt⟩ | ⟨rfl, _⟩
    · subst hta
      have hrt2 := hrt
      rw [htx] at hrt2
      obtain ⟨ab', cs, hab, hblk, _, _, _, hcl, _⟩ := row_blk hrt2 (Nat.succ_pos 0)
      simp only [Option.some.injEq, Addr.mk.injEq] at hab
      obtain ⟨rfl, _⟩ := hab
      have hgl := hps.lt
      have hrg : r.parser ≠ g := by rw [hrp]; omega
      refine ⟨ab, 0, tb, ⟨s.toArray⟩, rfl, hblk.at_ 0 (hcl 0 (by omega)), hkt.at_ 3 rfl, (hi g r w hps (by rw [hrp]; exact hpar) hrg hbk hlk).mono ?_⟩
      rintro e w' ⟨l, vs, outs, c, em, s2, bk, rfl, hps', hrl, hn, hits, hout, hm⟩
      have hkt' := hkt.mod hm (by omega)
      refine ⟨l.a, l.n, l.c, rfl, ⟨_, hkt'.at_ 2 rfl⟩, hkt'.free 2, ?_⟩
      have htg : tb ≠ g := by omega
      have hm2 : Mod (fun k => k = tb) w' (w'.setCell ⟨tb, 2, none⟩ (.slice l.a l.n l.c)) := (Mod.refl (fun k => k = tb) w').setCell (p := ⟨tb, 2, none⟩) (.inl rfl) _
      have hm3 := (hm.mono (S' := fun k => k = g ∨ k = tb) (fun _ _ h => .inl h)).trans hm2 (fun _ _ h => .inr h)
      have hg1 : g + 1 ≤ w.heap.size := hgl
      refine ⟨hb.trans (hm3.toBelow (B := g) (Nat.le_of_lt hgl) (fun k hk e => by omega)), hpar.mod hm3 (by omega), _, d, kb, tb, ab, v1, tc, lk, hps'.far (p := ⟨tb, 2, none⟩) (fun e => htg e.symm) _, hrp, hroot, rfl, htx, ?_, ?_, hv1, ?_, hgt, .inr ⟨rfl, sl, el, sl2, el2, .string ⟨s.toArray⟩, l, vs, outs, ?_, ?_, ?_, hn, ?_, hout⟩⟩
      · exact own_mod hrt hm3 (fun q hq e => by
          rcases e with e | e
          · have := ownBase hrt hq.symm; omega
          · subst e; exact own_ne hrt hkt (by decide) hq.symm)
      · exact hdoc.mod hm3 (fun e => by
          rcases e with e | e
          · exact Blk.ne_ hdoc hps (by decide) e
          · exact Blk.ne_ hdoc hkt (by decide) e)
      · exact own_mod hrow hm3 (fun q hq e => by
          rcases e with e | e
          · have := ownBase hrow hq.symm; omega
          · subst e; exact own_ne hrow hkt (by decide) hq.symm)
      · exact hkp.mod hm3 (fun e => by
          rcases e with e | e
          · exact Blk.ne_ hkp hps (by decide) e
          · exact Blk.ne_ hkp hkt (by decide) e)
      · exact hkt'.set_ 2 _
      · exact own_base (own_far hrl (p := ⟨tb, 2, none⟩) (own_ne hrl hkt' (by decide)) _) hg1
      · exact (hits.mod hm2 (fun k ty cs hbk _ _ ht e => by subst e; exact Blk.ne_ hbk hkt' ht rfl)).base hg1
    · omega
theorem paraOut_len (out : List UInt8) : (paraOut out).length = out.length + 8 := by unfold paraOut; simp
set_option maxRecDepth 20000 in
theorem HTML_parR (o : Opt) (s out : List UInt8) (w : World) (hs : ParLine ⟨s.toArray⟩) (hno : 10 ∉ s ∧ 13 ∉ s ∧ 0 ∉ s) (href : RefNo s) (hi : InlC0 o s out) (ht : o.tasks = false) (hol : out.length ≤ 900000) :
    Calls Tryz.prog 11 #[o.v, .string ⟨s.toArray⟩] w fun e w' => e = .returned (.string ⟨(paraOut out).toArray⟩) ∧ Below w.heap.size w w' := by
  refine HTML_gen2 o _ w (paraOut out) (fun pb w1 hbw hblkp => ?_)
  have hsz := hs.size
  have hsl : s.length ≤ 100000 := by rw [sz_mk] at hsz; exact hsz
  have hpb : pb < w1.heap.size := hblkp.lt
  have hpo := paraOut_len out
  have hpar : Calls Tryz.prog 43 #[.pointer (some ⟨pb, 0, none⟩), .string ⟨s.toArray⟩] w1 fun e w' => ∃ d c, e = .returned (.tuple #[.pointer (some ⟨d, 0, none⟩), .bool c]) ∧ DocPrints w' d (paraOut out) ∧ Below w1.heap.size w1 w' := by
    refine (parse_gen2 pb _ w1 1 (ParInv pb w1.heap.size w1 o s) (ParFin pb w1.heap.size w1 o s out) (by omega) (idxB_not _ 0 hno.2.2) (parH pb w1.heap.size w1 o s out hs ⟨hno.1, hno.2.1⟩ href hpb hi ht) ?_).mono ?_
    · intro w' bn hps hb
      refine (addBlock_top (w1.heap.size + 1) w1.heap.size (ps0 pb) [] w' 98 (.pointer (some ⟨bn, 0, none⟩)) hps.lt hps ⟨rfl, World.ownsRow_nil _ _ _ _⟩ rfl (by simp)).mono ?_
      rintro e w2 ⟨rfl, v, hps1, hst, _, hm⟩
      refine ⟨rfl, ?_, ?_, v, some ⟨bn, 0, none⟩, .inl ⟨rfl, rfl, hps1, hst⟩⟩
      · exact hb.trans (hm.toBelow (B := w1.heap.size) hb.size (fun k hk e => by
          rcases e with e | e
          · omega
          · simp [ps0, Sl.nil, Value.ownBlock] at e))
      · refine (hblkp.mod (S := fun _ => False) (Mod.below' hb) (fun x => x)).mod hm (fun e => ?_)
        rcases e with e | e
        · omega
        · simp [ps0, Sl.nil, Value.ownBlock] at e
    · rintro e w' ⟨ta, r, k, rfl, hps, w0, ⟨hb, _, r0, d, kb, tb, ab, v1, tc, lk, hps0, _, hroot, _, _, _, hdoc, hv1, hrow, _, hk⟩, rfl⟩
      have h1 := hps.c1
      have h2 := hps0.c1
      rw [show (w0.drewN k).cell? ⟨w1.heap.size, 1, none⟩ = w0.cell? ⟨w1.heap.size, 1, none⟩ from rfl, h2, hroot] at h1
      simp only [Option.some.injEq, Value.pointer.injEq] at h1
      rw [← h1]
      rcases hk with ⟨h, _⟩ | ⟨_, hpar⟩
      · omega
      · refine ⟨d, _, rfl, ⟨0, 0, v1, lk, w1.heap.size + 1, [parV kb], [paraOut out], hdoc, ?_, by omega, by simp, by omega, rfl, ?_⟩, below_drewN hb k⟩
        · rw [hv1]; exact World.ownsRow.drewN hrow k
        · intro b i y x hbz hy hx
          cases i with
          | zero =>
            simp at hy hx
            subst hy hx
            exact par_prints _ (w1.heap.size + 1) b kb tb _ out hbz (hpar.drewN k)
          | succ i => simp at hy
  go_enter Tryz.func29, Tryz.ntmps29
  go_wp2_with (go_at_call 43; refine hpar.mono ?_; rintro e w1 ⟨d, c, rfl, hd, hb⟩)
  go_ret
  exact ⟨d, rfl, hd, hb⟩
theorem HTML_par (o : Opt) (s out : List UInt8) (w : World) (hs : ParLine ⟨s.toArray⟩) (hno : 10 ∉ s ∧ 13 ∉ s ∧ 0 ∉ s) (h91 : bt ⟨s.toArray⟩ 0 ≠ 91) (hi : InlC o s out) (ht : o.tasks = false) (hol : out.length ≤ 900000) :
    Calls Tryz.prog 11 #[o.v, .string ⟨s.toArray⟩] w fun e w' => e = .returned (.string ⟨(paraOut out).toArray⟩) ∧ Below w.heap.size w w' := by
  have hsz := hs.size
  have hpo := hs.pos
  rw [sz_mk] at hsz hpo
  refine HTML_parR o s out w hs hno (refNo_plain s hpo (by omega) (fun c hc => ?_)) hi.to0 ht hol
  have hb0 : bt ⟨s.toArray⟩ 0 = (c.toNat : Int) := by rw [bt_list, hc]
  have q1 := hs.h32
  have q2 := hs.tab 0
  rw [hb0] at q1 q2 h91
  exact ⟨fun e => q1 (by rw [e]; rfl), fun e => q2 (by rw [e]; rfl), fun e => hno.1 (by rw [← e]; exact List.mem_of_getElem? hc), fun e => h91 (by rw [e]; rfl)⟩
end Go.Proofs.YtmmijmhdbpldpaaGreatDoor
/- What a text prints, from how it is read. -/


namespace Go.Proofs.YtmmijmhdbpldpaaGreatDoor
open Go.RowKit
theorem flat_mem_len {ts : List (List UInt8)} {l : List UInt8} (h : l ∈ ts) : l.length ≤ ts.flatten.length := by
  induction ts with
  | nil => cases h
  | cons a ts ih =>
    rw [List.flatten_cons, List.length_append]
    rcases List.mem_cons.1 h with rfl | h
    · omega
    · have := ih h; omega
theorem plainK_inj {a b : List UInt8} (h : plainK a = plainK b) : a = b := by
  have := plainOf_plain a
  rw [h, plainOf_plain] at this
  exact (Option.some.inj this).symm
theorem flush_len {ts : List (List UInt8)} {l : List UInt8} (h : plainK l ∈ flushK ts) : l.length ≤ ts.flatten.length := by
  unfold flushK at h
  split at h
  · cases h
  · simp only [List.mem_cons, List.not_mem_nil, or_false] at h
    rw [plainK_inj h]
    exact Nat.le_refl _
theorem mergeA_plain_len (ts : List (List UInt8)) (ks : List Kind) (l : List UInt8) (h : plainK l ∈ mergeA ts ks) : l.length ≤ ts.flatten.length + (ks.filterMap plainOf).flatten.length := by
  induction ks generalizing ts with
  | nil => have := flush_len (ts := ts) (by simpa [mergeA] using h); omega
  | cons k ks ih =>
    rw [mergeA] at h
    cases hp : plainOf k with
    | some t =>
      rw [hp] at h
      have h1 := ih _ h
      rw [List.filterMap_cons, hp]
      simp only [List.flatten_append, List.flatten_cons, List.flatten_nil, List.append_nil, List.length_append] at h1 ⊢
      omega
    | none =>
      rw [hp] at h
      rw [List.filterMap_cons, hp]
      rcases List.mem_append.1 h with h | h
      · have := flush_len h; omega
      · rcases List.mem_cons.1 h with h | h
        · rw [← h, plainOf_plain] at hp; cases hp
        · have := ih _ h
          simp only [List.flatten_nil, List.length_nil] at this
          simp only
          omega
theorem inlC_of2 (o : Opt) (s0 s out : List UInt8) (J : Nat → Nat → Bool → List Value → List Kind → Prop) (Fin : List Kind → Prop) (ha : o.auto_ = false) (hs0 : s0.length ≤ 100000) (hs : s.length ≤ 100000) (htr : trimR (trimL s0) = s)
    (H : ∀ (g : Nat) (r : PSr) (w : World), IsPS w g r → Blk w r.parser 77 o.parser → r.parser ≠ g → r.back.length = 81 → InlH o w.heap.size g r ⟨s.toArray⟩ w J Fin)
    (hfin : ∀ ks, Fin ks → (∀ k ∈ ks, k.Sure) → ks ≠ [] ∧ (ks.filterMap plainOf).flatten.length ≤ 100000 ∧ ∃ outK : Kind → List UInt8, (∀ l, outK (plainK l) = esc l) ∧ (∀ k ∈ ks, (∀ l, k ≠ plainK l) → KPrints k (outK k)) ∧ ks.flatMap outK = out) : InlC o s0 out := by
  intro g r w hps hpar hne hbk
  refine inline_loop o g r ⟨s0.toArray⟩ ⟨s.toArray⟩ w J Fin hps hpar hne out (bsz hs0) (by simp only [htr]) (bsz hs) (H g r w hps hpar hne hbk) (fun ks hF hsu => ?_)
  obtain ⟨h3, h4, outK, ho1, ho2, ho3⟩ := hfin ks hF hsu
  have hmem : ∀ k ∈ mergeA [] ks, k.Ok ∧ KPrints k (outK k) := by
    intro k hk
    by_cases hp : ∃ l, k = plainK l
    · obtain ⟨l, rfl⟩ := hp
      refine ⟨plainK_ok l, ?_⟩
      rw [ho1]
      have := mergeA_plain_len [] ks l hk
      simp only [List.flatten_nil, List.length_nil] at this
      exact plain_kprints l (by omega)
    · rcases mergeA_mem _ _ k hk with h | ⟨l, rfl⟩
      · exact ⟨(hsu k h).1, ho2 k h (fun l e => hp ⟨l, e⟩)⟩
      · exact absurd ⟨l, rfl⟩ hp
  have hout : (mergeA [] ks).flatMap outK = out := by
    rw [mergeA_out outK esc ho1 rfl (fun a b => by simp [esc]), ho3]
    rfl
  refine ⟨h3, by omega, ?_⟩
  rw [← hout]
  exact autP_no o _ g r _ outK ha hmem
theorem inlC_of (o : Opt) (s out : List UInt8) (J : Nat → Nat → Bool → List Value → List Kind → Prop) (Fin : List Kind → Prop) (ha : o.auto_ = false) (hs : s.length ≤ 100000) (htr : trimR (trimL s) = s)
    (H : ∀ (g : Nat) (r : PSr) (w : World), IsPS w g r → Blk w r.parser 77 o.parser → r.parser ≠ g → r.back.length = 81 → InlH o w.heap.size g r ⟨s.toArray⟩ w J Fin)
    (hfin : ∀ ks, Fin ks → (∀ k ∈ ks, k.Sure) → ks ≠ [] ∧ (ks.filterMap plainOf).flatten.length ≤ 100000 ∧ ∃ outK : Kind → List UInt8, (∀ l, outK (plainK l) = esc l) ∧ (∀ k ∈ ks, (∀ l, k ≠ plainK l) → KPrints k (outK k)) ∧ ks.flatMap outK = out) : InlC o s out :=
  inlC_of2 o s s out J Fin ha hs hs htr H hfin
end Go.Proofs.YtmmijmhdbpldpaaGreatDoor
/- No list item begins with digits that no full stop and no bracket follow. -/


namespace Go.Proofs.YtmmijmhdbpldpaaGreatDoor
open Go.RowKit
def DigR (b : Nat) (s : ByteArray) (nl : Int) (w0 : World) (t9 t10 : Value) (wr : World) : Prop :=
  ∃ (j : Nat) (x : Int), t9 = .int .i64 x ∧ t10 = .int .i64 j ∧ j ≤ s.size ∧ j ≤ 9 ∧ (∀ k, k < j → 48 ≤ bt s k ∧ bt s k ≤ 57) ∧ IsLn wr b 0 0 s nl ∧ Below w0.heap.size w0 wr
set_option maxRecDepth 20000 in
set_option maxHeartbeats 4000000 in
theorem startListItem_dig (g b : Nat) (nl : Int) (s : ByteArray) (w : World) (h : IsLn w b 0 0 s nl) (hs : s.size ≤ 100000) (ht : ∀ k, bt s k ≠ 9) (h0 : bt s 0 = 48 ∨ bt s 0 = 49 ∨ bt s 0 = 57) (hq : ∀ k, (∀ j, j < k → 48 ≤ bt s j ∧ bt s j ≤ 57) → bt s k ≠ 46 ∧ bt s k ≠ 41) :
    Calls Tryz.prog 139 #[.pointer (some ⟨g, 0, none⟩), .pointer (some ⟨b, 0, none⟩)] w fun e w' => e = .returned (.bool false) ∧ Below w.heap.size w w' := by
  have hz0 := h.c0
  have h1 := h.c1
  have h2 := h.c2
  have h3 := h.c3
  have h4 := h.c4
  have hlt := Blk.lt h
  have hpos : 0 < s.size := by
    rcases Nat.eq_zero_or_pos s.size with he | he
    · unfold bt at h0; rw [dif_neg (by omega)] at h0; omega
    · exact he
  have HT := hid ht
  have HQ := hid hq
  clear ht hq h
  go_enter Tryz.func139, Tryz.ntmps139
  go_wp2_with fail
  go_step3
  go_wp2_with fail
  have hln : Hid (IsLn _ (w.heap.size + 1) 0 0 s nl) := hid (Blk.new' (w := World.alloc w (.cells #[.pointer (some ⟨g, 0, none⟩)] 116)) (t := 104) (cs := #[.int .i64 0, .int .i64 (0 : Nat), .int .i64 0, .string s, .int .u8 nl]) (by simp))
  have hbl : Hid (Below w.heap.size w (World.alloc _ _)) := hid (((Below.refl _ w).alloc (Nat.le_refl _) (.cells #[.pointer (some ⟨g, 0, none⟩)] 116)).alloc (by simp) (.cells #[.int .i64 0, .int .i64 (0 : Nat), .int .i64 0, .string s, .int .u8 nl] 104))
  refine wp_loop_rounds 1 ?_
  rw [rounds_succ]
  go_wp2_with fail
  refine (trimSp_any _ 0 1 1 false 0 nl s _ hln.out (by omega) (Nat.zero_le _) HT.out (by omega) (by omega)).mono ?_
  rintro e w2 ⟨j', a1, a2, a3, a4, a5, a6, hm2⟩
  have hj0 : j' = 0 := by
    rcases Nat.eq_zero_or_pos j' with h | h
    · exact h
    · have := a4 0 (Nat.le_refl _) h; omega
  rcases a6 with ⟨_, a7, _⟩ | ⟨rfl, _, _, _, hl2⟩
  · exfalso
    rcases a7 with h1 | h1 | h1
    · omega
    · omega
    · cases h1.1
  · have HL2 := hid hl2
    have HB2 := hid (hbl.out.trans (Mod.toBelow hm2 (by simp; omega) (fun k hk h => by omega)))
    clear a4 a5 hl2 hln hbl hz0 h1 h2 h3 h4 hm2
    go_wp2_with fail
    refine (peek_any _ 0 0 nl s _ HL2.out (by omega)).mono ?_
    rintro e w3 ⟨rfl, n3, rfl⟩
    have HL3 : Hid (IsLn (w2.drewN n3) (w.heap.size + 1) 0 0 s nl) := hid HL2.out
    have HB3 : Hid (Below w.heap.size w (w2.drewN n3)) := hid (below_drewN HB2.out n3)
    clear HL2 HB2
    generalize w2.drewN n3 = w4 at HL3 HB3 ⊢
    have d45 : (bt s 0 == 45) = false := by have : bt s 0 ≠ 45 := by omega
                                            simpa using this
    have d42 : (bt s 0 == 42) = false := by have : bt s 0 ≠ 42 := by omega
                                            simpa using this
    have d43 : (bt s 0 == 43) = false := by have : bt s 0 ≠ 43 := by omega
                                            simpa using this
    have hb := get_bt s
    have H0 := hid h0
    have b0 := HL3.out.c0
    have b1 := HL3.out.c1
    have b2 := HL3.out.c2
    have b3 := HL3.out.c3
    have b4 := HL3.out.c4
    rcases h0 with h0 | h0 | h0
    all_goals
      go_wp2_with fail
      go_step3
      go_wp2_with fail
      clear d45 d42 d43 h0
      go_loopw [9, 10, 11] (fun t9 t10 _ wr => DigR (w.heap.size + 1) s nl w t9 t10 wr) (fun _ t10 _ _ => s.size + 1 - (intOf t10).toNat)
      case atStart => exact ⟨0, 0, rfl, rfl, Nat.zero_le _, Nat.zero_le _, fun k hk => by omega, HL3.out, HB3.out⟩
      case round =>
        obtain ⟨j, x, rfl, rfl, hj, hj9, hd, hl, hbel⟩ := hrel
        have HL := hid hl
        have HB := hid hbel
        have HDD := hid hd
        clear b0 b1 b2 b3 b4
        have b0 := hl.c0
        have b1 := hl.c1
        have b2 := hl.c2
        have b3 := hl.c3
        have b4 := hl.c4
        clear hl hbel hd
        obtain ⟨n46, n41⟩ := HQ.out j HDD.out
        have e46 : (bt s j == 46) = false := by simpa using n46
        have e41 : (bt s j == 41) = false := by simpa using n41
        by_cases hlt : j < s.size
        · by_cases hlo : bt s j < 48
          · go_wp2_with fail
            all_goals (try rw [Exit.noGoto_ret])
            go_ret
            exact ⟨rfl, HB.out⟩
          · by_cases hhi : 57 < bt s j
            · go_wp2_with fail
              all_goals (try rw [Exit.noGoto_ret])
              go_ret
              exact ⟨rfl, HB.out⟩
            · by_cases h9 : 9 ≤ j
              · go_wp2_with fail
                all_goals (try rw [Exit.noGoto_ret])
                go_ret
                exact ⟨rfl, HB.out⟩
              · go_wp2_with fail
                go_roundw
                case rel => exact ⟨j + 1, _, rfl, by go_num, hlt, by omega, fun k hk => by
                  rcases Nat.lt_or_ge k j with h | h
                  · exact HDD.out k h
                  · obtain rfl : k = j := by omega
                    omega, HL.out, HB.out⟩
                case measure => simp [intOf]; omega
        · go_wp2_with fail
          all_goals (try rw [Exit.noGoto_ret])
          go_ret
          exact ⟨rfl, HB.out⟩
end Go.Proofs.YtmmijmhdbpldpaaGreatDoor
/- Texts of words, spaces and hyphens: a paragraph each, and read as they are. -/


namespace Go.Proofs.YtmmijmhdbpldpaaGreatDoor
open Go.RowKit
/-- The letters and digits of the laws' words. -/
def wcs : List UInt8 := [97, 98, 122, 48, 49, 57]
def wcs2 : List UInt8 := wcs ++ [32, 45]
theorem bt_mem (t : List UInt8) (k : Nat) (P : Int → Prop) (h0 : P 0) (h : ∀ c ∈ t, P (c.toNat : Int)) : P (bt ⟨t.toArray⟩ k) := by
  rw [bt_list]
  cases hk : t[k]? with
  | none => exact h0
  | some y => exact h y (List.mem_of_getElem? hk)
theorem bt_some {t : List UInt8} {k : Nat} {c : UInt8} (h : t[k]? = some c) : bt ⟨t.toArray⟩ k = (c.toNat : Int) := by rw [bt_list, h]
theorem bt_get {t : List UInt8} {k : Nat} (h : k < t.length) : ∃ c, t[k]? = some c ∧ c ∈ t ∧ bt ⟨t.toArray⟩ k = (c.toNat : Int) :=
  ⟨t[k], List.getElem?_eq_getElem h, List.getElem_mem h, bt_some (List.getElem?_eq_getElem h)⟩
theorem isWord_line (c0 : UInt8) (r : List UInt8) (h0 : c0 ∈ wcs) (h : ∀ c ∈ c0 :: r, c ∈ wcs2) (hl : (c0 :: r).length ≤ 100000) : ParLine ⟨(c0 :: r).toArray⟩ := by
  have all : ∀ (P : Int → Prop), P 0 → (∀ c ∈ wcs2, P (c.toNat : Int)) → ∀ k, P (bt ⟨(c0 :: r).toArray⟩ k) := fun P hp hc k => bt_mem _ k P hp (fun c hm => hc c (h c hm))
  have hb : bt ⟨(c0 :: r).toArray⟩ 0 = (c0.toNat : Int) := bt_some rfl
  have hsz : (ByteArray.mk (c0 :: r).toArray).size ≤ 100000 := by rw [sz_mk]; exact hl
  have htab := all (fun z => z ≠ 9) (by decide) (by decide)
  have first : ∀ (P : Int → Prop), (∀ c ∈ wcs, P (c.toNat : Int)) → P (bt ⟨(c0 :: r).toArray⟩ 0) := fun P hc => by rw [hb]; exact hc c0 h0
  have h32 := first (fun z => z ≠ 32) (by decide)
  refine { size := hsz, pos := by rw [sz_mk]; simp, tab := htab, q := fun k _ => all (fun z => z ≠ 62 ∧ z ≠ 35) (by decide) (by decide) k, h32 := h32, hr := first (fun z => z ≠ 42 ∧ z ≠ 45 ∧ z ≠ 95) (by decide), lt_ := first (fun z => z ≠ 60) (by decide), fence := first (fun z => z ≠ 126) (by decide), tick := first (fun z => z ≠ 96) (by decide), item := ?_ }
  intro g b nl w hw
  by_cases hd : bt ⟨(c0 :: r).toArray⟩ 0 = 48 ∨ bt ⟨(c0 :: r).toArray⟩ 0 = 49 ∨ bt ⟨(c0 :: r).toArray⟩ 0 = 57
  · exact startListItem_dig g b nl _ w hw hsz htab hd (fun k _ => all (fun z => z ≠ 46 ∧ z ≠ 41) (by decide) (by decide) k)
  · refine startListItem_no g b 0 0 nl _ w hw (by omega) (Nat.zero_le _) htab (fun k hk => ?_)
    rw [reach0 h32 hk]
    have := first (fun z => z = 48 ∨ z = 49 ∨ z = 57 ∨ NoItem z) (by unfold NoItem; decide)
    rcases this with e | e | e | e
    · exact absurd (.inl e) hd
    · exact absurd (.inr (.inl e)) hd
    · exact absurd (.inr (.inr e)) hd
    · exact e
theorem esc_self (l : List UInt8) (h : ∀ c ∈ l, c ≠ 34 ∧ c ≠ 38 ∧ c ≠ 60 ∧ c ≠ 62) : esc l = l := by
  induction l with
  | nil => rfl
  | cons a t ih =>
    have h1 := h a (List.mem_cons_self ..)
    have h2 := ih (fun c hc => h c (List.mem_cons_of_mem _ hc))
    unfold esc at h2 ⊢
    rw [List.flatMap_cons, h2]
    unfold esc1
    rw [if_neg h1.1, if_neg h1.2.1, if_neg h1.2.2.1, if_neg h1.2.2.2]
    rfl
theorem trim_self (l : List UInt8) (h0 : ∀ c, l[0]? = some c → c ≠ 32 ∧ c ≠ 9) (h1 : ∀ c, l.getLast? = some c → c ≠ 32 ∧ c ≠ 9) : trimR (trimL l) = l := by
  rw [trimL_self h0]
  unfold trimR
  have : l.reverse.dropWhile isST = l.reverse := by
    cases hr : l.reverse with
    | nil => rfl
    | cons a t =>
      have hl : l.getLast? = some a := by
        rw [← List.head?_reverse, hr]; rfl
      obtain ⟨q1, q2⟩ := h1 a hl
      rw [List.dropWhile_cons, if_neg]
      unfold isST
      simp [q1, q2]
  rw [this, List.reverse_reverse]
theorem piece_all (t : List UInt8) (h : 0 < t.length) : pieceK ⟨t.toArray⟩ 0 (ByteArray.mk t.toArray).size = [plainK t] := by
  unfold pieceK
  rw [sz_mk, if_pos h]
  simp
/-- What a list of plain texts prints. -/
def outP (k : Kind) : List UInt8 := match plainOf k with
  | some l => esc l
  | none => []
theorem outP_plain (l : List UInt8) : outP (plainK l) = esc l := by unfold outP; rw [plainOf_plain]
/-- A text without signs is read as it is. -/
theorem inlC_quiet (o : Opt) (t : List UInt8) (ha : o.auto_ = false) (hl : t.length ≤ 100000) (hp : 0 < t.length) (htr : trimR (trimL t) = t) (hq : ∀ (g : Nat), ∀ c ∈ t, parF o g (c.toNat : Int) = none ∧ c ≠ 96) : InlC o t (esc t) := by
  refine inlC_of o t (esc t) (fun _ em tk _ ks => em = 0 ∧ tk = false ∧ ks = []) (fun ks => ks = [plainK t]) ha hl htr (fun g r w hps hpar hne _ => ?_) (fun ks hF _ => ?_)
  · refine { start := ⟨rfl, rfl, rfl⟩, fin := ?_, quiet := ?_, tick := ?_, call := ?_ }
    · rintro em tk bk ks ⟨rfl, rfl, rfl⟩
      exact piece_all t hp
    · intro i em tk bk ks h _ _ _
      exact h
    · intro i em tk bk ks _ _ hi h96 _
      rw [sz_mk] at hi
      obtain ⟨c, _, h2, h3⟩ := bt_get hi
      rw [h3] at h96
      exact absurd (UInt8.toNat_inj.1 (by rw [show (96 : UInt8).toNat = 96 from rfl]; omega)) (hq 0 c h2).2
    · intro i em tk bk ks f rv _ _ hi hpf
      rw [sz_mk] at hi
      obtain ⟨c, _, h2, h3⟩ := bt_get hi
      rw [h3, (hq g c h2).1] at hpf
      cases hpf
  · subst hF
    refine ⟨by simp, by simp [plainOf_plain]; exact hl, outP, outP_plain, fun k hk hn => ?_, by simp [outP_plain]⟩
    simp only [List.mem_cons, List.not_mem_nil, or_false] at hk
    exact absurd hk (hn t)
end Go.Proofs.YtmmijmhdbpldpaaGreatDoor
/- The library's contracts on strings.Builder, laid at this program. -/



namespace Go.Proofs
open Go.Shelf
def Tryz.layXT_ren : Go.Shelf.Ren := ⟨fun | 169 => 35 | n => n, fun | 70 => 55 | 9 => 9 | 0 => 0 | 72 => 58 | 37 => 56 | 127 => 85 | 3 => 3 | 5 => 5 | n => n, fun | n => n⟩
theorem Tryz.layXT : Go.Proofs.Lays.n169 Tryz.prog Tryz.layXT_ren := {
  mixed := by kernel_rfl
  f169 := Tryz.func35.trans (congrArg some (by kernel_rfl))
  t0 := Tryz.underlying0
  a0 := Tryz.isAgg0
  z0 := Tryz.sizeOf0
  v0 := Tryz.zeroValue0
  t3 := Tryz.underlying3
  a3 := Tryz.isAgg3
  z3 := Tryz.sizeOf3
  v3 := Tryz.zeroValue3
  t9 := Tryz.underlying9
  a9 := Tryz.isAgg9
  z9 := Tryz.sizeOf9
  v9 := Tryz.zeroValue9
  t37 := Tryz.underlying56
  a37 := Tryz.isAgg56
  z37 := Tryz.sizeOf56
  v37 := Tryz.zeroValue56
  t70 := Tryz.underlying55
  a70 := Tryz.isAgg55
  z70 := Tryz.sizeOf55
  v70 := Tryz.zeroValue55
  t72 := Tryz.underlying58
  a72 := Tryz.isAgg58
  z72 := Tryz.sizeOf58
  v72 := Tryz.zeroValue58
  t127 := Tryz.underlying85
  a127 := Tryz.isAgg85
  z127 := Tryz.sizeOf85
  v127 := Tryz.zeroValue85 }
end Go.Proofs
