/- Texts of this proof, joined: emph of a list in which signs that might have opened a link stand: they become plain texts, Links whose text is any list of parts: what becomes of the signs in it, and what is printed. -/
import Derived.Test.YtmmijmhdbpldpaaGreatDoorCRef04
import Derived.Test.YtmmijmhdbpldpaaGreatDoorCRef09
import Derived.Test.YtmmijmhdbpldpaaGreatDoorCRef05
/- emph of a list in which signs that might have opened a link stand: they become plain texts. -/


namespace Go.Proofs.YtmmijmhdbpldpaaGreatDoor
open Go.RowKit
@[reducible] def emoFrame (g lb off n c hb : Nat) (i : Int) (U : Nat → Value) : Act := { tmps := #[.pointer (some ⟨g, 0, none⟩), .slice none 0 0, .slice (some ⟨lb, off, none⟩) n c, undef, .pointer (some ⟨hb, 0, none⟩), undef, .slice none 0 0, .pointer (some ⟨hb + 1, 0, none⟩), .func (Fn.func 119) #[] #[], .func (Fn.func 120) #[] #[.pointer (some ⟨hb + 1, 0, none⟩), .pointer (some ⟨hb, 0, none⟩)], .int .i64 i, U 11, U 12, U 13, U 14, undef, undef, undef, undef, undef, undef, undef, .func (Fn.func 120) #[] #[.pointer (some ⟨hb + 1, 0, none⟩), .pointer (some ⟨hb, 0, none⟩)], U 23, U 24, U 25, U 26, U 27, U 28, U 29, U 30, U 31, U 32, U 33, U 34, U 35, U 36, U 37, U 38, U 39, U 40, U 41, U 42, U 43, U 44, U 45, U 46, U 47, U 48, U 49, U 50, U 51, U 52, U 53, U 54, U 55, U 56, U 57, U 58, U 59, U 60, U 61, U 62, U 63, U 64, U 65, U 66, U 67, U 68, U 69, undef, undef, undef, undef, undef, undef, undef, undef, undef, undef, undef, undef, undef, undef, undef, undef, undef, undef, undef, undef, undef, undef, undef, undef, undef, undef, undef, undef, undef, undef, undef, undef, undef, undef, undef, undef, undef, undef, undef, undef, undef, undef, undef, undef, undef, undef, undef, undef, undef, undef, undef, undef, undef, undef, undef, undef, undef, undef, undef, undef, undef, undef, undef, undef, undef, undef, undef, undef, undef, undef, undef, undef, undef, undef, undef, undef, undef, undef, undef, undef, undef, undef, undef, undef, undef, undef, undef, undef, undef, undef, undef, undef, undef, undef, undef, undef, undef, undef, undef, undef, undef, undef, undef, undef, undef, undef, undef, undef, undef, undef, undef, undef, undef, undef, undef, undef, undef, undef, undef, undef, undef, undef, undef, undef, undef, undef, undef, undef, undef, undef, undef, undef, undef, undef, undef, undef, undef, undef, undef, undef, undef, undef, undef, undef, undef, undef, undef, undef, undef, undef, undef, undef, undef, undef, undef, undef, undef, undef, undef, undef, undef, undef, undef, undef, undef, undef, undef, undef, undef, undef, undef, undef, undef, undef, undef, undef, undef, undef, undef, undef, undef, undef, undef, undef, undef, undef, undef, undef, undef, undef, undef, undef, undef, undef, undef, undef, undef, undef, undef, undef, undef, undef, undef, undef, undef, undef, undef, undef, undef, undef, undef, undef, undef, undef, undef, undef, undef, undef, undef, undef, undef, undef, undef, undef, undef, undef, undef, undef, undef, undef, undef, undef, undef, undef, undef, undef, undef, undef, undef, undef, undef, undef, undef, undef, undef, undef, undef, undef, undef, undef, undef, undef, undef, undef, undef, undef, undef, undef, undef, undef, undef, undef, undef, undef, undef, undef, undef, undef, undef, undef, undef, undef, undef, undef, undef, undef, undef, undef, undef, undef, undef, undef, undef, undef, undef, undef, undef, undef, undef, undef, undef, undef, undef, undef, undef, undef, undef, undef, undef, undef, undef, undef, undef, undef, undef, undef, undef, undef, undef, undef, undef, undef, undef, undef, undef, undef, undef, undef, undef, undef, undef, undef, undef, undef, undef, undef, undef, undef, undef, undef, undef, undef, undef, undef, undef, undef, undef, undef, undef, undef, undef, undef, undef, undef, undef, undef, undef, undef, undef, undef, undef, undef, undef, undef, undef, undef, undef, undef, undef, undef, undef, undef, undef, undef, undef, undef], defers := [] }
def emoList (g lb off n c hb : Nat) (i : Int) (U : Nat → Value) : List Value := [.pointer (some ⟨g, 0, none⟩), .slice none 0 0, .slice (some ⟨lb, off, none⟩) n c, undef, .pointer (some ⟨hb, 0, none⟩), undef, .slice none 0 0, .pointer (some ⟨hb + 1, 0, none⟩), .func (Fn.func 119) #[] #[], .func (Fn.func 120) #[] #[.pointer (some ⟨hb + 1, 0, none⟩), .pointer (some ⟨hb, 0, none⟩)], .int .i64 i, U 11, U 12, U 13, U 14, undef, undef, undef, undef, undef, undef, undef, .func (Fn.func 120) #[] #[.pointer (some ⟨hb + 1, 0, none⟩), .pointer (some ⟨hb, 0, none⟩)], U 23, U 24, U 25, U 26, U 27, U 28, U 29, U 30, U 31, U 32, U 33, U 34, U 35, U 36, U 37, U 38, U 39, U 40, U 41, U 42, U 43, U 44, U 45, U 46, U 47, U 48, U 49, U 50, U 51, U 52, U 53, U 54, U 55, U 56, U 57, U 58, U 59, U 60, U 61, U 62, U 63, U 64, U 65, U 66, U 67, U 68, U 69, undef, undef, undef, undef, undef, undef, undef, undef, undef, undef, undef, undef, undef, undef, undef, undef, undef, undef, undef, undef, undef, undef, undef, undef, undef, undef, undef, undef, undef, undef, undef, undef, undef, undef, undef, undef, undef, undef, undef, undef, undef, undef, undef, undef, undef, undef, undef, undef, undef, undef, undef, undef, undef, undef, undef, undef, undef, undef, undef, undef, undef, undef, undef, undef, undef, undef, undef, undef, undef, undef, undef, undef, undef, undef, undef, undef, undef, undef, undef, undef, undef, undef, undef, undef, undef, undef, undef, undef, undef, undef, undef, undef, undef, undef, undef, undef, undef, undef, undef, undef, undef, undef, undef, undef, undef, undef, undef, undef, undef, undef, undef, undef, undef, undef, undef, undef, undef, undef, undef, undef, undef, undef, undef, undef, undef, undef, undef, undef, undef, undef, undef, undef, undef, undef, undef, undef, undef, undef, undef, undef, undef, undef, undef, undef, undef, undef, undef, undef, undef, undef, undef, undef, undef, undef, undef, undef, undef, undef, undef, undef, undef, undef, undef, undef, undef, undef, undef, undef, undef, undef, undef, undef, undef, undef, undef, undef, undef, undef, undef, undef, undef, undef, undef, undef, undef, undef, undef, undef, undef, undef, undef, undef, undef, undef, undef, undef, undef, undef, undef, undef, undef, undef, undef, undef, undef, undef, undef, undef, undef, undef, undef, undef, undef, undef, undef, undef, undef, undef, undef, undef, undef, undef, undef, undef, undef, undef, undef, undef, undef, undef, undef, undef, undef, undef, undef, undef, undef, undef, undef, undef, undef, undef, undef, undef, undef, undef, undef, undef, undef, undef, undef, undef, undef, undef, undef, undef, undef, undef, undef, undef, undef, undef, undef, undef, undef, undef, undef, undef, undef, undef, undef, undef, undef, undef, undef, undef, undef, undef, undef, undef, undef, undef, undef, undef, undef, undef, undef, undef, undef, undef, undef, undef, undef, undef, undef, undef, undef, undef, undef, undef, undef, undef, undef, undef, undef, undef, undef, undef, undef, undef, undef, undef, undef, undef, undef, undef, undef, undef, undef, undef, undef, undef, undef, undef, undef, undef, undef, undef, undef, undef, undef, undef, undef, undef, undef, undef, undef, undef, undef, undef, undef, undef, undef, undef, undef, undef, undef, undef, undef, undef, undef, undef, undef, undef, undef, undef, undef, undef, undef, undef, undef, undef, undef, undef, undef, undef]
def nthE : List Value → Nat → Value
  | [], _ => undef
  | a :: _, 0 => a
  | _ :: l, n + 1 => nthE l n
theorem emo_eq {g lb off n c hb : Nat} {i : Int} (L : List Value) (h : emoList g lb off n c hb i (nthE L) = L) : ({ tmps := L.toArray, defers := [] } : Act) = emoFrame g lb off n c hb i (nthE L) := by
  have : emoFrame g lb off n c hb i (nthE L) = { tmps := (emoList g lb off n c hb i (nthE L)).toArray, defers := [] } := rfl
  rw [this, h]
/-- What becomes of a part. -/
def emV (v : Value) : Value := match v with
  | .iface T p => if T = 134 then .iface 156 p else .iface T p
  | _ => v
def EmK (k : Kind) : Prop := k.T = 134 ∨ (k.T ≠ 134 ∧ k.Ok)
def EmoI (g lb off n c : Nat) (vs : List Value) (w : World) (a : Act) (wr : World) : Prop := ∃ (i : Nat) (U : Nat → Value) (d : Sl), (i ≤ n ∧ Below w.heap.size w wr ∧ Blk wr w.heap.size 88 #[.slice d.a i d.c] ∧ wr.ownsRow (w.heap.size + 1) 132 1 (.slice d.a i d.c) i ((vs.take i).map emV)) ∧ a = emoFrame g lb off n c w.heap.size i U
set_option maxRecDepth 20000 in
set_option maxHeartbeats 4000000 in
theorem emph_open (B g lb off n c : Nat) (vs : List Value) (ks : List Kind) (w : World) (hcells : ∀ j v, vs[j]? = some v → w.cell? ⟨lb, off + j, none⟩ = some v) (hvl : vs.length = n) (hits : IsItems w B vs ks) (hlb : lb < w.heap.size) (hok : ∀ k ∈ ks, EmK k) (hn : n ≤ 100000) :
    Calls Tryz.prog 81 #[.pointer (some ⟨g, 0, none⟩), .slice none 0 0, .slice (some ⟨lb, off, none⟩) n c] w fun e w' => ∃ d : Sl, e = .returned (.slice d.a n d.c) ∧ w'.ownsRow w.heap.size 132 1 (.slice d.a n d.c) n (vs.map emV) ∧ Below w.heap.size w w' := by
  obtain ⟨is0, his0, hsz0, hsz1, hsz2⟩ := info_parts infoInl
  have HITS := hid hits
  have HOK := hid hok
  have HCELLS := hid hcells
  clear hits hok hcells
  go_enter Tryz.func81, Tryz.ntmps81
  go_wp2_with fail
  go_step3
  go_wp2_with fail
  go_step3
  go_wp2_with fail
  have hbx : Hid (Blk (World.alloc _ _) w.heap.size 88 #[.slice none 0 0]) := hid (Blk.alloc (Blk.new w 88 #[.slice none 0 0]) (.cells #[.slice none 0 0, .slice none 0 0, .slice none 0 0, .slice none 0 0, .slice none 0 0] 210))
  have hbl : Hid (Below w.heap.size w (World.alloc _ _)) := hid (((Below.refl _ w).alloc (Nat.le_refl _) (.cells #[.slice none 0 0] 88)).alloc (by simp) (.cells #[.slice none 0 0, .slice none 0 0, .slice none 0 0, .slice none 0 0, .slice none 0 0] 210))
  refine wp_loop (EmoI g lb off n c vs w) (fun a _ => n - (intOf (a.tmps.getD 10 undef)).toNat) ?_ ?_
  · exact ⟨0, nthE _, Sl.nil, ⟨Nat.zero_le _, hbl.out, hbx.out, World.ownsRow_nil _ _ _ _⟩, emo_eq _ (by kernel_rfl)⟩
  · clear hbx hbl
    rintro a0 wr ⟨i, U, d, ⟨hi, hbel, hbox, hown⟩, rfl⟩
    try dsimp only
    have HBEL := hid hbel
    have HBOX := hid hbox
    have HOWN := hid hown
    have b0 := hbox.at_ 0 (v := .slice d.a i d.c) rfl
    have fb := hbox.free
    have hbz := hbox.lt
    have hbs := hbel.size
    clear hbel hbox hown
    by_cases hlt : i < n
    · have hv0 : i < vs.length := by omega
      have hk0 : i < ks.length := by rw [← HITS.out.1]; exact hv0
      obtain ⟨bb, hv1, _, _⟩ := HITS.out.2 i _ _ (List.getElem?_eq_getElem hv0) (List.getElem?_eq_getElem hk0)
      have hkk := HOK.out _ (List.getElem_mem hk0)
      have hci := HCELLS.out i _ (List.getElem?_eq_getElem hv0)
      have hce : wr.cell? ⟨lb, off + i, none⟩ = some (vs[i]'hv0) := by rw [HBEL.out.cell (show (⟨lb, off + i, none⟩ : Addr).block < w.heap.size from hlb)]; exact hci
      have HT := hid (show (vs.take (i + 1)).map emV = (vs.take i).map emV ++ [emV (vs[i]'hv0)] from by rw [List.take_add_one, List.getElem?_eq_getElem hv0, List.map_append]; rfl)
      rw [hv1] at hce HT
      generalize ks[i]'hk0 = k at hv1 hkk hce HT
      clear hci hv1
      rcases hkk with hkT | ⟨hkT, hkO⟩
      · rw [hkT] at hce HT
        rw [show emV (.iface 134 (.pointer (some ⟨bb, 0, none⟩))) = .iface 156 (.pointer (some ⟨bb, 0, none⟩)) from rfl] at HT
        have ta1 : ∀ W, (Instr.typeAssert (.iface 134 (.pointer (some ⟨bb, 0, none⟩))) 132 134 true).run Tryz.prog W = .ok (.tuple #[.pointer (some ⟨bb, 0, none⟩), .bool true]) W := fun _ => by kernel_rfl
        clear hkT
        go_wp2_with fail
        go_region_law (refine step_append_lies _ rfl (.tmp 38) (.tmp 43) 88 (by rfl) (w.heap.size + 1) 132 is0 _ 1 16 Tryz.underlying88 his0 hsz0 hsz1 hsz2 rfl (by decide) (.slice d.a i d.c) i ((vs.take i).map emV) (by rfl) (by first | exact World.ownsRow.alloc (World.ownsRow.drewN HOWN.out 1) _ | exact World.ownsRow.drewN (World.ownsRow.alloc HOWN.out _) 1) ⟨wr.heap.size, 0, none⟩ 1 1 [.iface 156 (.pointer (some ⟨bb, 0, none⟩))] (by rfl) rfl (World.news_of_block (heap_alloc_new _ _)) (by intro v hv; simp at hv; subst hv; rfl) (by omega) (by unfold maxLen; omega) (by omega) (by simp; omega) (wr.heap.size + 1) (by simp) ?_
                       intro g2 cap2 w4 hown4 hgr4 hat4 hlt4
                       have hb4 : Blk w4 w.heap.size 88 #[.slice d.a i d.c] := Blk.grown (Blk.alloc (w := World.drew wr) HBOX.out _) hgr4 (own_ne HOWN.out HBOX.out (by decide))
                       have q0 := hb4.at_ 0 (v := .slice d.a i d.c) rfl
                       have fq := hb4.free)
        all_goals
          have hm4 : Below w.heap.size w w4 := (((below_drewN HBEL.out 1).alloc (by simpa using hbs) (.cells #[.iface 156 (.pointer (some ⟨bb, 0, none⟩))] 132)).grown hgr4 (by simp; omega) (fun q hq => Nat.le_of_succ_le (ownBase HOWN.out hq.symm)))
          have h5 := hid (show Blk (World.setCell w4 ⟨w.heap.size, 0, none⟩ (.slice (some ⟨g2, 0, none⟩) (i + 1) cap2)) w.heap.size 88 #[.slice (some ⟨g2, 0, none⟩) (i + 1) cap2] from by simpa using Blk.set_ hb4 0 (.slice (some ⟨g2, 0, none⟩) (i + 1) cap2))
          have hB5 := hid (hm4.setCell (p := ⟨w.heap.size, 0, none⟩) (Nat.le_refl _) (.slice (some ⟨g2, 0, none⟩) (i + 1) cap2))
          have hO5 := hid (own_far hown4 (p := ⟨w.heap.size, 0, none⟩) (own_ne hown4 hb4 (by decide)) (.slice (some ⟨g2, 0, none⟩) (i + 1) cap2))
          rw [← HT.out] at hO5
          clear hm4 hown4 hgr4 hat4 hlt4 hb4 q0 fq b0 fb hce
          generalize World.setCell w4 ⟨w.heap.size, 0, none⟩ _ = w5 at h5 hB5 hO5 ⊢
          go_wp2_with fail
          refine ⟨⟨i + 1, nthE _, ⟨some ⟨g2, 0, none⟩, i + 1, cap2⟩, ⟨by omega, hB5.out, h5.out, hO5.out⟩, emo_eq _ (by kernel_rfl)⟩, ?_⟩
          simp [intOf]; omega
      · rw [show emV (.iface k.T (.pointer (some ⟨bb, 0, none⟩))) = .iface k.T (.pointer (some ⟨bb, 0, none⟩)) from by unfold emV; exact if_neg hkT] at HT
        have ta1 := hkO.open_ (some ⟨bb, 0, none⟩)
        have ta2 := hkO.emph_ (some ⟨bb, 0, none⟩)
        clear hkO
        go_wp2_with fail
        go_region_law (refine step_append_lies _ rfl (.tmp 55) (.tmp 60) 88 (by rfl) (w.heap.size + 1) 132 is0 _ 1 16 Tryz.underlying88 his0 hsz0 hsz1 hsz2 rfl (by decide) (.slice d.a i d.c) i ((vs.take i).map emV) (by rfl) (by first | exact World.ownsRow.alloc (World.ownsRow.drewN HOWN.out 1) _ | exact World.ownsRow.drewN (World.ownsRow.alloc HOWN.out _) 1) ⟨wr.heap.size, 0, none⟩ 1 1 [.iface k.T (.pointer (some ⟨bb, 0, none⟩))] (by rfl) rfl (World.news_of_block (heap_alloc_new _ _)) (by intro v hv; simp at hv; subst hv; rfl) (by omega) (by unfold maxLen; omega) (by omega) (by simp; omega) (wr.heap.size + 1) (by simp) ?_
                       intro g2 cap2 w4 hown4 hgr4 hat4 hlt4
                       have hb4 : Blk w4 w.heap.size 88 #[.slice d.a i d.c] := Blk.grown (Blk.alloc (w := World.drew wr) HBOX.out _) hgr4 (own_ne HOWN.out HBOX.out (by decide))
                       have q0 := hb4.at_ 0 (v := .slice d.a i d.c) rfl
                       have fq := hb4.free)
        all_goals
          have hm4 : Below w.heap.size w w4 := (((below_drewN HBEL.out 1).alloc (by simpa using hbs) (.cells #[.iface k.T (.pointer (some ⟨bb, 0, none⟩))] 132)).grown hgr4 (by simp; omega) (fun q hq => Nat.le_of_succ_le (ownBase HOWN.out hq.symm)))
          have h5 := hid (show Blk (World.setCell w4 ⟨w.heap.size, 0, none⟩ (.slice (some ⟨g2, 0, none⟩) (i + 1) cap2)) w.heap.size 88 #[.slice (some ⟨g2, 0, none⟩) (i + 1) cap2] from by simpa using Blk.set_ hb4 0 (.slice (some ⟨g2, 0, none⟩) (i + 1) cap2))
          have hB5 := hid (hm4.setCell (p := ⟨w.heap.size, 0, none⟩) (Nat.le_refl _) (.slice (some ⟨g2, 0, none⟩) (i + 1) cap2))
          have hO5 := hid (own_far hown4 (p := ⟨w.heap.size, 0, none⟩) (own_ne hown4 hb4 (by decide)) (.slice (some ⟨g2, 0, none⟩) (i + 1) cap2))
          rw [← HT.out] at hO5
          clear hm4 hown4 hgr4 hat4 hlt4 hb4 q0 fq b0 fb hce
          generalize World.setCell w4 ⟨w.heap.size, 0, none⟩ _ = w5 at h5 hB5 hO5 ⊢
          go_wp2_with fail
          refine ⟨⟨i + 1, nthE _, ⟨some ⟨g2, 0, none⟩, i + 1, cap2⟩, ⟨by omega, hB5.out, h5.out, hO5.out⟩, emo_eq _ (by kernel_rfl)⟩, ?_⟩
          simp [intOf]; omega
    · obtain rfl : i = n := by omega
      have HT := hid (show (vs.take i).map emV = vs.map emV from by rw [List.take_of_length_le (by omega)])
      rw [HT.out] at HOWN
      go_wp2_with fail
      rw [Exit.noGoto_ret]
      go_ret
      exact ⟨d, rfl, own_base HOWN.out (by omega), HBEL.out⟩
end Go.Proofs.YtmmijmhdbpldpaaGreatDoor
/- Links whose text is any list of parts: what becomes of the signs in it, and what is printed. -/



namespace Go.Proofs.YtmmijmhdbpldpaaGreatDoor
open Go.RowKit
/-- A sign that has opened nothing, as a plain text. -/
@[reducible] def plusK (l : List UInt8) (j : Nat) : Kind := ⟨156, 139, [lineV l, .int .i64 j]⟩
theorem plusK_ok (l : List UInt8) (j : Nat) : (plusK l j).Ok := ⟨(by decide : (139 : Nat) ≠ 95), (by decide : (139 : Nat) ≠ 132), (by decide : (139 : Nat) ≠ 110), fun _ _ => by kernel_rfl, fun _ _ => by kernel_rfl⟩
theorem openK_fit (l : List UInt8) (j : Nat) : (openK l j).Fit := ⟨(by decide : (139 : Nat) ≠ 95), (by decide : (139 : Nat) ≠ 132)⟩
/-- What becomes of a part. -/
def emK (k : Kind) : Kind := if k.T = 134 then ⟨156, k.tb, k.cs⟩ else k
theorem emK_open (l : List UInt8) (j : Nat) : emK (openK l j) = plusK l j := if_pos rfl
theorem emK_plain (l : List UInt8) : emK (plainK l) = plainK l := if_neg (by decide : ¬ (156 : Nat) = 134)
theorem emItems {w : World} {B : Nat} {vs : List Value} {ks : List Kind} (h : IsItems w B vs ks) : IsItems w B (vs.map emV) (ks.map emK) := by
  refine ⟨by rw [List.length_map, List.length_map, h.1], fun j v k hv hk => ?_⟩
  rw [List.getElem?_map] at hv hk
  cases hv1 : vs[j]? with
  | none => rw [hv1] at hv; cases hv
  | some v1 =>
    cases hk1 : ks[j]? with
    | none => rw [hk1] at hk; cases hk
    | some k1 =>
      rw [hv1] at hv
      rw [hk1] at hk
      simp only [Option.map_some, Option.some.injEq] at hv hk
      obtain ⟨b, rfl, hb, hB⟩ := h.2 j v1 k1 hv1 hk1
      subst hv hk
      unfold emV emK
      by_cases ht : k1.T = 134
      · simp only [ht, if_true]
        exact ⟨b, rfl, hb, hB⟩
      · simp only [ht, if_false]
        exact ⟨b, rfl, hb, hB⟩
theorem plus_kprints (l : List UInt8) (j : Nat) (hl : l.length ≤ 100000) : KPrints (plusK l j) (esc l) := by
  rintro w B0 b bs v ⟨pb, rfl, hblk, _⟩ hb
  refine ⟨_, _, 254, .pointer (some ⟨pb, 0, none⟩), rfl, fun W => by kernel_rfl, Go.Proofs.enters_of Tryz.func254 (by kernel_rfl) rfl, fun B W hk hbf hB hlen => ?_⟩
  have hblk' : Blk W pb 139 #[.string ⟨l.toArray⟩, .int .i64 j] := hblk.kept hk (by have := hblk.lt; omega) (by decide : (139 : Nat) ≠ 5)
  exact plainHTML_gen B b pb bs ⟨l.toArray⟩ W hblk' rfl hbf hB (by show l.toArray.size ≤ 100000; rw [List.size_toArray]; exact hl) (by omega)
def lkHead (u : List UInt8) : List UInt8 := [60, 97, 32, 104, 114, 101, 102, 61, 34] ++ u ++ [34] ++ [62]
def lkOut (u t : List UInt8) : List UInt8 := lkHead u ++ t ++ [60, 47, 97, 62]
theorem lkHead_len (u : List UInt8) : (lkHead u).length = u.length + 11 := by unfold lkHead; simp
/-- A link: its block, and the row of its text. -/
def IsLinkG (w : World) (b base : Nat) (inner : Sl) (u : ByteArray) (lc : Bool) (ys : List Value) : Prop :=
  Blk w b 144 #[inner.v, .string u, .string ⟨#[]⟩, .int .u8 0, .bool lc] ∧ w.ownsRow base 132 1 inner.v inner.n ys
set_option maxRecDepth 20000 in
set_option maxHeartbeats 1600000 in
theorem linkHTML_gen (B q b base : Nat) (bs : List UInt8) (u : ByteArray) (lc : Bool) (inner : Sl) (ys : List Value) (outs : List (List UInt8)) (w : World) (h : IsLinkG w b base inner u lc ys) (hn : inner.n ≤ 1000000) (h0 : 0 < inner.n) (hbq : b ≠ q) (hbuf : IsBuf B q bs w) (hB : B ≤ w.heap.size) (hu : u.size ≤ 10000)
    (hlo : outs.length = ys.length) (hp : ∀ (i : Nat) y o, ys[i]? = some y → outs[i]? = some o → Prints w q (bs ++ lkHead u.data.toList ++ (outs.take i).flatten) y o) (hl : bs.length + u.size + 15 + outs.flatten.length ≤ 1000000) (hq : ∀ i, i < u.size → Plainly (bt u i)) :
    Calls Tryz.prog 261 #[.pointer (some ⟨b, 0, none⟩), .pointer (some ⟨q, 0, none⟩)] w (PrintP B q bs (lkOut u.data.toList outs.flatten) w) := by
  have c1 := h.1.at_ 1 (v := .string u) rfl
  have hrow := h.2
  have hlen : ys.length = inner.n := by have := hrow.1; omega
  obtain ⟨ia, n, c⟩ := inner
  dsimp only at hn h0 hlen
  obtain ⟨ib, csr, rfl, hrb, _, hnc, _, hcj, _⟩ := row_blk (w := w) (vs := ys) hrow h0
  obtain ⟨bcs, hbb⟩ := hbuf.blk
  have hrq : ib ≠ q := Blk.ne_ hrb hbb (by decide)
  have HRB := hid hrb
  have HCJ := hid hcj
  have H := hid h.1
  have HP := hid hp
  have HLO := hid hlo
  have HLEN := hid hlen
  have HQ := hid hq
  clear hq
  have HBUF := hid hbuf
  have hul : u.data.toList.length = u.size := (Lib.size_eq u).symm
  have hc1 : ¬ 9223372036854775807 < 9 + u.size := by omega
  have hc2 : ¬ 9223372036854775807 < 9 + u.size + 1 := by omega
  have HSB := hid (link_bytes u)
  have HSZ := hid (show (((ByteArray.mk #[60, 97, 32, 104, 114, 101, 102, 61, 34] ++ u) ++ ByteArray.mk #[34]) : ByteArray).size + bs.length ≤ 2000000 from by rw [ByteArray.size_append, ByteArray.size_append]; show 9 + u.size + 1 + bs.length ≤ 2000000; omega)
  clear h hbuf hrow hrb hcj hp hlo hlen hbb
  go_enter Tryz.func261, Tryz.ntmps261
  go_wp2_with fail
  go_region_law (first
    | (go_simp; go_at_call 264; refine (htmlLinkEscaper_any _).mono ?_; rintro e w4 ⟨n4, rfl, hn4, hp4, hb4⟩; have HP4 := hid hp4; clear hp4; have c1' := Blk.at_ (Blk.mod (w := World.drew w) (S := fun _ => False) H.out (Mod.below' hb4) (fun x => x)) 1 (v := .string u) rfl)
    | (go_simp; go_at_call 265; refine (linkReplace_any n4 u _ HP4.out (by omega) HQ.out).mono ?_; rintro e w5 ⟨rfl, hb5⟩)
    | (go_simp; go_at_call 245; refine (write_str B q bs _ w5 (IsBuf.old (IsBuf.old (w := World.drew w) HBUF.out hb4) hb5) (Nat.le_trans (Nat.le_trans hB hb4.size) hb5.size) (by have := HSZ.out; omega)).mono ?_; rintro e w6 ⟨rfl, hi6, hb6, hk6⟩))
  all_goals
    rw [HSB.out] at hi6
    have hk06 : Kept q w w6 := (show Kept q (World.drew w) w6 from Lib.OthersKept.trans (Lib.OthersKept.below (Lib.OthersKept.below (Lib.OthersKept.refl _ _ (World.drew w)) hb4) hb5) hk6)
    have hb06 : Below B w w6 := ((below_drewN (Below.refl B w) 1).trans (hb4.mono hB)).trans ((hb5.mono (Nat.le_trans hB hb4.size)).trans hb6)
    have h6 := H.out.kept hk06 hbq (by decide)
    have HK6 := hid hk06
    have HB6 := hid hb06
    have HI6 := hid hi6
    have c0 := h6.at_ 0 (v := .slice (some ⟨ib, 0, none⟩) n c) rfl
    have c2 := h6.at_ 2 (v := .string ⟨#[]⟩) rfl
    clear c1' hb4 hb5 hb6 hk6 hk06 hb06 hi6 HP4 hn4 c1 h6 HBUF HSB HSZ
    go_wp2_with fail
    refine (write_str B q _ ⟨#[62]⟩ w6 HI6.out (Nat.le_trans hB HB6.out.size) (by have : (ByteArray.mk #[62]).size = 1 := rfl; simp; omega)).mono ?_
    rintro e w7 ⟨rfl, hi7, hb7, hk7⟩
    have HK7 := hid (Lib.OthersKept.trans HK6.out hk7)
    have HB7 := hid (HB6.out.trans hb7)
    have HI7 := hid (show IsBuf B q (bs ++ lkHead u.data.toList) w7 from by unfold lkHead; simpa [List.append_assoc] using hi7)
    clear c0 c2
    have c0 := (H.out.kept HK7.out hbq (by decide)).at_ 0 (v := .slice (some ⟨ib, 0, none⟩) n c) rfl
    clear hi7 hb7 hk7 HK6 HB6 HI6
    have HC2 : Hid (∀ i y, ys[i]? = some y → ∀ wr, Kept q w wr → wr.cell? ⟨ib, i, none⟩ = some y) := hid (fun i y hy wr hk => by
      have hi : i < n := by have := (List.getElem?_eq_some_iff.1 hy).1; have := HLEN.out; omega
      rw [(HRB.out.kept hk hrq (by decide)).cell i, HCJ.out i hi]
      exact hy)
    have HDL := hid (show (bs ++ lkHead u.data.toList).length = bs.length + u.size + 11 from by rw [List.length_append, lkHead_len, hul]; omega)
    go_wp2_with fail
    go_loopw [38] (fun t wr => DocR B q n (bs ++ lkHead u.data.toList) outs w7 t wr) (fun t _ => n - (intOf t).toNat)
    case atStart => exact ⟨0, Nat.zero_le _, rfl, by simpa using HI7.out, Below.refl _ _, Lib.OthersKept.refl _ _ _⟩
    case round =>
      obtain ⟨i, hi, rfl, hbf, hbel, hk⟩ := hrel
      by_cases hlt : i < n
      · have hy : i < ys.length := by rw [HLEN.out]; exact hlt
        have ho : i < outs.length := by rw [HLO.out]; exact hy
        have hk7r : Kept q w _ := Lib.OthersKept.trans HK7.out hk
        obtain ⟨u1, x, f, v, hyv, hm, he, hcall⟩ := HP.out i _ _ (List.getElem?_eq_getElem hy) (List.getElem?_eq_getElem ho)
        have hc' := HC2.out i _ (List.getElem?_eq_getElem hy) _ hk7r
        rw [hyv] at hc'
        have htl := take_len outs i
        have htl1 := take_len outs (i + 1)
        have htf := take_flat outs i _ (List.getElem?_eq_getElem ho)
        rw [htf, List.length_append] at htl1
        have HCALL := hid (hcall B _ hk7r hbf (Nat.le_trans hB (HB7.out.trans hbel).size) (by rw [List.length_append, HDL.out]; omega))
        have HTF := hid htf
        have HK := hid hk
        have HBL := hid hbel
        clear hk hbf hbel hyv hcall htf htl htl1 hk7r
        go_wp2_with fail
        refine HCALL.out.mono ?_
        rintro e w1 ⟨rfl, hb1, hbl1, hk1⟩
        have HB1 := hid hb1
        have HBL1 := hid hbl1
        have HK1 := hid hk1
        clear hb1 hbl1 hk1
        go_wp2_with fail
        go_roundw
        case rel => exact ⟨i + 1, by omega, by go_num, by rw [HTF.out, ← List.append_assoc]; exact HB1.out, HBL.out.trans HBL1.out, Lib.OthersKept.trans HK.out HK1.out⟩
        case measure => simp [intOf]; omega
      · obtain rfl : i = n := by omega
        have ht : outs.take i = outs := List.take_of_length_le (by rw [HLO.out, HLEN.out]; exact Nat.le_refl _)
        rw [ht] at hbf
        have HBF := hid hbf
        have HBL := hid hbel
        have HK := hid hk
        clear hbf hbel hk ht
        go_wp2_with fail
        refine (write_str B q _ ⟨#[60, 47, 97, 62]⟩ _ HBF.out (Nat.le_trans hB (HB7.out.trans HBL.out).size) (by have h4 : (ByteArray.mk #[60, 47, 97, 62]).size = 4 := rfl; rw [List.length_append, HDL.out, h4]; omega)).mono ?_
        rintro e w9 ⟨rfl, hi9, hb9, hk9⟩
        have HK9 := hid (Lib.OthersKept.trans HK7.out (Lib.OthersKept.trans HK.out hk9))
        have HB9 := hid (HB7.out.trans (HBL.out.trans hb9))
        have HI9 := hid hi9
        clear hi9 hb9 hk9
        go_wp2_with fail
        go_end0
        refine ⟨rfl, ?_, HB9.out, HK9.out⟩
        have := HI9.out
        unfold lkOut
        simpa [List.append_assoc] using this
/-- A link, as an item, by the items of its text. -/
theorem link_itemG {B : Nat} {w : World} {b base : Nat} {inner : Sl} {u : ByteArray} {lc : Bool} {ys : List Value} {outs : List (List UInt8)} (h : IsLinkG w b base inner u lc ys) (h1 : B ≤ b) (h2 : B ≤ base) (hn : inner.n ≤ 1000000) (h0 : 0 < inner.n) (hits : ItemsS B w ys outs) (hu : u.size ≤ 10000) (hq : ∀ i, i < u.size → Plainly (bt u i)) : ItemS B w (lkV b) (lkOut u.data.toList outs.flatten) := by
  refine ⟨fun k => B ≤ k ∧ ∃ ty cs, Blk w k ty cs ∧ ty ≠ 95 ∧ ty ≠ 110, fun k hk => hk, fun w' S hm hn' q bs hq' => ?_⟩
  have hrow' : w'.ownsRow base 132 1 inner.v inner.n ys := own_mod h.2 hm (fun k hk => by
    obtain ⟨lb, cs, ha, hb, hlb, _⟩ := row_blk (a := inner.a) (c := inner.c) h.2 h0
    have e : k = lb := by
      rw [Sl.v, ha] at hk
      exact (Option.some.inj hk).symm
    subst e
    exact hn' k ⟨by omega, _, _, hb, by decide, by decide⟩)
  have hblk' := h.1.mod hm (hn' b ⟨h1, _, _, h.1, by decide, by decide⟩)
  have hits' := hits.mod hm (fun k ty cs hb hB t1 t2 => hn' k ⟨hB, ty, cs, hb, t1, t2⟩)
  refine ⟨_, _, 261, .pointer (some ⟨b, 0, none⟩), rfl, fun W => by kernel_rfl, Go.Proofs.enters_of Tryz.func261 (by kernel_rfl) rfl, fun B' W hk hbf hB hlen => ?_⟩
  have l1 := hblk'.lt
  have e1 : u.data.toList.length = u.size := (Lib.size_eq u).symm
  have hrowW : W.ownsRow base 132 1 inner.v inner.n ys := own_kept hrow' hk (fun e => by have := ownLt hrow' e; omega) (by decide)
  refine linkHTML_gen B' q b base bs u lc inner ys outs W ⟨hblk'.kept hk (by omega) (by decide), hrowW⟩ hn h0 (by omega) hbf hB hu hits.1 (fun i y x hy hx => ((hits'.2 i y x hy hx).prints q _ hq').kept hk) ?_ hq
  unfold lkOut at hlen
  rw [List.length_append, List.length_append, lkHead_len, e1] at hlen
  simp only [List.length_cons, List.length_nil] at hlen
  omega
end Go.Proofs.YtmmijmhdbpldpaaGreatDoor
