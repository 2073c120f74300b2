/- Texts of this proof, joined: HTML of a paragraph, The HTML of a text, whatever its parse hands back, A list without signs of emphasis and without brackets passes emph unturned. -/
import Derived.Test.YtmmijmhdbpldpaaGreatDoorCInt07
import Derived.Test.YtmmijmhdbpldpaaGreatDoorCInt04
import Derived.Test.YtmmijmhdbpldpaaGreatDoorCInt01
import Derived.Test.YtmmijmhdbpldpaaGreatDoorCInt05
import Derived.ArgAppend
import Derived.Deep.RegionLaw
import Derived.Test.YtmmijmhdbpldpaaGreatDoorCInt06
/- HTML of a paragraph. -/

namespace Go.Proofs.YtmmijmhdbpldpaaGreatDoor
open Go.RowKit
def paraOut (out : List UInt8) : List UInt8 := [60, 112, 62] ++ out ++ [60, 47, 112, 62, 10]
set_option maxRecDepth 20000 in
set_option maxHeartbeats 1600000 in
theorem paraHTML_any (B b d tb base : Nat) (bs : List UInt8) (sl el sl2 el2 : Int) (raw : Value) (inner : Sl) (ys : List Value) (outs : List (List UInt8)) (w : World)
    (hd : Blk w d 155 #[.int .i64 sl, .int .i64 el, .pointer (some ⟨tb, 0, none⟩)])
    (hblk : Blk w tb 110 #[.int .i64 sl2, .int .i64 el2, inner.v, raw]) (hrow : w.ownsRow base 132 1 inner.v inner.n ys) (hn : inner.n ≤ 1000000) (hbne : tb ≠ b) (hbnd : d ≠ b)
    (hbuf : IsBuf B b bs w) (hB : B ≤ w.heap.size) (hlo : outs.length = ys.length) (hp : ∀ (i : Nat) y o bs', ys[i]? = some y → outs[i]? = some o → Prints w b bs' y o) (hl : bs.length + (paraOut outs.flatten).length ≤ 1000000) :
    Calls Tryz.prog 274 #[.pointer (some ⟨d, 0, none⟩), .pointer (some ⟨b, 0, none⟩)] w (PrintP B b bs (paraOut outs.flatten) w) := by
  have hlen : bs.length + outs.flatten.length + 8 ≤ 1000000 := by
    unfold paraOut at hl
    simp only [List.length_append, List.length_cons, List.length_nil] at hl
    omega
  have HD := hid hd
  have HBLK := hid hblk
  have HROW := hid hrow
  have HBUF := hid hbuf
  have HP := hid hp
  have HLO := hid hlo
  clear hd hblk hrow hbuf hp hlo hl
  go_enter Tryz.func274, Tryz.ntmps274
  go_wp2_with fail
  refine (write_str B b bs ⟨#[60, 112, 62]⟩ w HBUF.out hB (by show bs.length + 3 ≤ 2000000; omega)).mono ?_
  rintro e w1 ⟨rfl, hb1, hbl1, hk1⟩
  have hd1 := HD.out.kept hk1 hbnd (by decide)
  have c2 := hd1.at_ 2 rfl
  have HB1 := hid hb1
  have HBL1 := hid hbl1
  have HK1 := hid hk1
  have hzl : (bs ++ (ByteArray.mk #[60, 112, 62]).data.toList).length = bs.length + 3 := by simp
  have hrb : some b ≠ inner.v.ownBlock := by
    obtain ⟨cs, hcs⟩ := HBUF.out.blk
    exact own_ne HROW.out hcs (by decide)
  clear hb1 hbl1 hk1 hd1
  go_wp2_with fail
  refine (textHTML_any B b tb base (bs ++ [60, 112, 62]) sl2 el2 raw inner ys outs w1 (HBLK.out.kept HK1.out hbne (by decide)) (own_kept HROW.out HK1.out hrb (by decide)) hn HB1.out (Nat.le_trans hB HBL1.out.size) HLO.out (fun i y o hy ho => (HP.out i y o _ hy ho).kept HK1.out) (by rw [List.length_append]; show bs.length + 3 + _ ≤ _; omega)).mono ?_
  rintro e w2 ⟨rfl, hb2, hbl2, hk2⟩
  have HB2 := hid hb2
  have HBL2 := hid (HBL1.out.trans hbl2)
  have HK2 := hid (Lib.OthersKept.trans HK1.out hk2)
  clear hb2 hbl2 hk2 HB1 HBL1 HK1
  go_wp2_with fail
  refine (write_str B b (bs ++ [60, 112, 62] ++ outs.flatten) ⟨#[60, 47, 112, 62, 10]⟩ w2 HB2.out (Nat.le_trans hB HBL2.out.size) (by rw [List.length_append, List.length_append]; show bs.length + 3 + _ + 5 ≤ _; omega)).mono ?_
  rintro e w3 ⟨rfl, hb3, hbl3, hk3⟩
  have HB3 := hid hb3
  have HBL3 := hid (HBL2.out.trans hbl3)
  have HK3 := hid (Lib.OthersKept.trans HK2.out hk3)
  clear hb3 hbl3 hk3
  go_wp2_with fail
  go_end0
  refine ⟨rfl, ?_, HBL3.out, HK3.out⟩
  have := HB3.out
  unfold paraOut
  simpa [List.append_assoc] using this
end Go.Proofs.YtmmijmhdbpldpaaGreatDoor
/- The HTML of a text, whatever its parse hands back. -/



namespace Go.Proofs.YtmmijmhdbpldpaaGreatDoor
open Go.RowKit
def rootF (a : Option Addr) (v : Sl) : Ent := ⟨98, .pointer a, v, 0, 0⟩
set_option maxRecDepth 20000 in
/-- The HTML of a text, whatever its parse hands back; the parser's world is one behind w. -/
theorem HTML_gen2 (o : Opt) (s : ByteArray) (w : World) (out : List UInt8)
    (hP : ∀ g w1, Below w.heap.size w w1 → Blk w1 g 77 o.parser → Calls Tryz.prog 29 #[.pointer (some ⟨g, 0, none⟩), .string s] w1 (ParsedDoc w1 out)) :
    Calls Tryz.prog 11 #[o.v, .string s] w fun e w' => e = .returned (.string ⟨out.toArray⟩) ∧ Below w.heap.size w w' := by
  have HP := hid hP
  clear hP
  obtain ⟨o0, o1, o2, o3, o4, o5, o6, o7, o8, o9⟩ := o
  have hv : (Opt.mk o0 o1 o2 o3 o4 o5 o6 o7 o8 o9).v = .agg #[.bool o0, .bool o1, .bool o2, .bool o3, .bool o4, .bool o5, .bool o6, .bool o7, .bool o8, .bool o9] := rfl
  rw [hv]
  go_enter Tryz.func11, Tryz.ntmps11
  go_wp2_with fail
  refine (parser_any ⟨o0, o1, o2, o3, o4, o5, o6, o7, o8, o9⟩ _).mono ?_
  rintro e w1 ⟨g, rfl, hg, hblk, hb⟩
  have HB := hid hb
  have HBL := hid hblk
  have HBW := hid (((Below.refl w.heap.size w).alloc (Nat.le_refl _) _).trans (hb.mono (by simp)))
  clear hblk hb
  go_wp2_with fail
  refine (HP.out g _ HBW.out HBL.out).mono ?_
  rintro e w2 ⟨d, rfl, hd, hb2⟩
  have HB2 := hid hb2
  have HD := hid hd
  clear hb2 hd
  go_wp2_with fail
  refine (toHTML_doc d out _ HD.out).mono ?_
  rintro e w3 ⟨rfl, hb3⟩
  have HB3 := hid hb3
  clear hb3
  go_wp2_with fail
  go_ret
  exact ⟨rfl, ((((Below.refl _ _).alloc (Nat.le_refl _) _).trans (HB.out.mono (by simp))).trans (HB2.out.mono (Nat.le_trans (by simp) HB.out.size))).trans (HB3.out.mono (Nat.le_trans (Nat.le_trans (by simp) HB.out.size) HB2.out.size))⟩
end Go.Proofs.YtmmijmhdbpldpaaGreatDoor
/- A list without signs of emphasis and without brackets passes emph unturned. -/



namespace Go.Proofs.YtmmijmhdbpldpaaGreatDoor
open Go.RowKit
theorem setCell_eq {w : World} {b o : Nat} {t : TypeId} {cs : Array Value} {v : Value} (hg : Blk w b t cs) (hv : cs[o]? = some v) : w.setCell ⟨b, o, none⟩ v = w := by
  have hlt : b < w.heap.size := hg.lt
  have hv2 : w.heap[b] = .cells cs t (0, 0) := (Array.getElem?_eq_some_iff.1 hg).2
  have ho : cs.setIfInBounds o v = cs := by
    obtain ⟨h1, h2⟩ := Array.getElem?_eq_some_iff.1 hv
    apply Array.ext
    · simp
    · intro k h3 h4
      rw [Array.getElem_setIfInBounds]
      split
      · rename_i hk; subst hk; exact h2.symm
      · rfl
  unfold World.setCell
  cases w with
  | mk heap tape drawn os output =>
    congr 1
    apply Array.ext
    · simp
    · intro k h1 h2
      simp only [Array.getElem_modify]
      split
      · rename_i hk; subst hk; simp at hv2; simp [hv2, ho]
      · rfl
theorem setCells_one {w : World} {b o : Nat} {t : TypeId} {cs : Array Value} {v : Value} (hg : Blk w b t cs) (hv : cs[o]? = some v) : w.setCells b (0 + o * 1) [v] = w := by
  simp only [World.setCells, Nat.zero_add, Nat.mul_one]
  exact setCell_eq hg hv
/-- The row of a list that is not empty. -/
theorem row_blk {w : World} {B n : Nat} {e : TypeId} {a : Option Addr} {c : Nat} {vs : List Value} (h : w.ownsRow B e 1 (.slice a n c) n vs) (h0 : 0 < n) : ∃ lb cs, a = some ⟨lb, 0, none⟩ ∧ Blk w lb e cs ∧ B ≤ lb ∧ n ≤ c ∧ cs.size = c ∧ (∀ j, j < n → cs[j]? = vs[j]?) ∧ vs.length = n := by
  obtain ⟨hl, h⟩ := h
  rcases h with ⟨_, h2⟩ | ⟨g, cap, cur, h3, hb, hh, h4, _, h5, h6⟩
  · omega
  · simp only [Value.slice.injEq] at h3
    obtain ⟨rfl, _, rfl⟩ := h3
    refine ⟨g, cur, rfl, hh, hb, h4, by omega, fun j hj => ?_, by omega⟩
    have e1 : (cur.toList.take (n * 1))[j]? = vs[j]? := by rw [h6]
    rw [List.getElem?_take, if_pos (by omega)] at e1
    simpa using e1
theorem row_cap {w : World} {B n : Nat} {e : TypeId} {a : Option Addr} {c : Nat} {vs : List Value} (h : w.ownsRow B e 1 (.slice a n c) n vs) (h0 : 0 < n) : c ≤ 9223372036854775807 := by
  rcases h.2 with ⟨_, h2⟩ | ⟨g, cap, cur, h3, _, _, _, h5, _⟩
  · omega
  · simp only [Value.slice.injEq] at h3
    obtain ⟨_, _, rfl⟩ := h3
    exact h5
@[reducible] def emphFrame (g lb n c hb : Nat) (i : Int) (u11 u12 u13 u14 u23 u24 u25 u26 u27 u28 u29 u30 u31 u32 u33 u34 u35 u36 u37 u38 u39 u40 u41 u42 u43 u44 u45 u46 u47 u48 u49 u50 u51 u52 u53 u54 u55 u56 u57 u58 u59 u60 u61 : Value) : Act := { tmps := #[.pointer (some ⟨g, 0, none⟩), .slice (some ⟨lb, 0, none⟩) 0 c, .slice (some ⟨lb, 0, none⟩) n c, undef, .pointer (some ⟨hb, 0, none⟩), undef, .slice none 0 0, .pointer (some ⟨hb + 1, 0, none⟩), .func (Fn.func 119) #[] #[], .func (Fn.func 120) #[] #[.pointer (some ⟨hb + 1, 0, none⟩), .pointer (some ⟨hb, 0, none⟩)], .int .i64 i, u11, u12, u13, u14, undef, undef, undef, undef, undef, undef, undef, .func (Fn.func 120) #[] #[.pointer (some ⟨hb + 1, 0, none⟩), .pointer (some ⟨hb, 0, none⟩)], u23, u24, u25, u26, u27, u28, u29, u30, u31, u32, u33, u34, u35, u36, u37, u38, u39, u40, u41, u42, u43, u44, u45, u46, u47, u48, u49, u50, u51, u52, u53, u54, u55, u56, u57, u58, u59, u60, u61, undef, undef, undef, undef, undef, undef, undef, undef, undef, undef, undef, undef, undef, undef, undef, undef, undef, undef, undef, undef, undef, undef, undef, undef, undef, undef, undef, undef, undef, undef, undef, undef, undef, undef, undef, undef, undef, undef, undef, undef, undef, undef, undef, undef, undef, undef, undef, undef, undef, undef, undef, undef, undef, undef, undef, undef, undef, undef, undef, undef, undef, undef, undef, undef, undef, undef, undef, undef, undef, undef, undef, undef, undef, undef, undef, undef, undef, undef, undef, undef, undef, undef, undef, undef, undef, undef, undef, undef, undef, undef, undef, undef, undef, undef, undef, undef, undef, undef, undef, undef, undef, undef, undef, undef, undef, undef, undef, undef, undef, undef, undef, undef, undef, undef, undef, undef, undef, undef, undef, undef, undef, undef, undef, undef, undef, undef, undef, undef, undef, undef, undef, undef, undef, undef, undef, undef, undef, undef, undef, undef, undef, undef, undef, undef, undef, undef, undef, undef, undef, undef, undef, undef, undef, undef, undef, undef, undef, undef, undef, undef, undef, undef, undef, undef, undef, undef, undef, undef, undef, undef, undef, undef, undef, undef, undef, undef, undef, undef, undef, undef, undef, undef, undef, undef, undef, undef, undef, undef, undef, undef, undef, undef, undef, undef, undef, undef, undef, undef, undef, undef, undef, undef, undef, undef, undef, undef, undef, undef, undef, undef, undef, undef, undef, undef, undef, undef, undef, undef, undef, undef, undef, undef, undef, undef, undef, undef, undef, undef, undef, undef, undef, undef, undef, undef, undef, undef, undef, undef, undef, undef, undef, undef, undef, undef, undef, undef, undef, undef, undef, undef, undef, undef, undef, undef, undef, undef, undef, undef, undef, undef, undef, undef, undef, undef, undef, undef, undef, undef, undef, undef, undef, undef, undef, undef, undef, undef, undef, undef, undef, undef, undef, undef, undef, undef, undef, undef, undef, undef, undef, undef, undef, undef, undef, undef, undef, undef, undef, undef, undef, undef, undef, undef, undef, undef, undef, undef, undef, undef, undef, undef, undef, undef, undef, undef, undef, undef, undef, undef, undef, undef, undef, undef, undef, undef, undef, undef, undef, undef, undef, undef, undef, undef, undef, undef, undef, undef, undef, undef, undef, undef, undef, undef, undef, undef, undef, undef, undef, undef, undef, undef, undef, undef, undef, undef, undef, undef, undef, undef, undef, undef, undef, undef, undef, undef, undef, undef, undef, undef, undef, undef, undef, undef, undef, undef], defers := [] }
def EmphI (g lb n c : Nat) (w : World) (a : Act) (wr : World) : Prop := ∃ (i : Nat) (u11 u12 u13 u14 u23 u24 u25 u26 u27 u28 u29 u30 u31 u32 u33 u34 u35 u36 u37 u38 u39 u40 u41 u42 u43 u44 u45 u46 u47 u48 u49 u50 u51 u52 u53 u54 u55 u56 u57 u58 u59 u60 u61 : Value), (i ≤ n ∧ Below w.heap.size w wr ∧ Blk wr w.heap.size 88 #[.slice (some ⟨lb, 0, none⟩) i c]) ∧ a = emphFrame g lb n c w.heap.size i u11 u12 u13 u14 u23 u24 u25 u26 u27 u28 u29 u30 u31 u32 u33 u34 u35 u36 u37 u38 u39 u40 u41 u42 u43 u44 u45 u46 u47 u48 u49 u50 u51 u52 u53 u54 u55 u56 u57 u58 u59 u60 u61
set_option maxRecDepth 20000 in
set_option maxHeartbeats 4000000 in
theorem emph_flat (B g : Nat) (l : Sl) (vs : List Value) (ks : List Kind) (w : World) (_ : B ≤ w.heap.size) (hrow : w.ownsRow B 132 1 l.v l.n vs) (hits : IsItems w B vs ks) (hok : ∀ k ∈ ks, k.Ok) (hn : l.n ≤ 1000000) (h0 : 0 < l.n) :
    Calls Tryz.prog 81 #[.pointer (some ⟨g, 0, none⟩), .slice l.a 0 l.c, .slice l.a l.n l.c] w fun e w' => e = .returned (.slice l.a l.n l.c) ∧ Below w.heap.size w w' := by
  obtain ⟨is0, his0, hsz0, hsz1, hsz2⟩ := info_parts infoInl
  obtain ⟨la, n, c⟩ := l
  dsimp only at hrow hn h0 ⊢
  obtain ⟨lb, cs, rfl, hblk, hBl, hnc, hcs, hcells, hvl⟩ := row_blk hrow h0
  have HBLK := hid hblk
  have HITS := hid hits
  have HOK := hid hok
  have HCELLS := hid hcells
  have HCS := hid hcs
  have hlb := hblk.lt
  clear hblk hits hok hcells hcs hrow
  go_enter Tryz.func81, Tryz.ntmps81
  go_wp2_with fail
  go_step3
  go_wp2_with fail
  go_step3
  go_wp2_with fail
  have hbx : Hid (Blk (World.alloc _ _) w.heap.size 88 #[.slice (some ⟨lb, 0, none⟩) 0 c]) := hid (Blk.alloc (Blk.new w 88 #[.slice (some ⟨lb, 0, none⟩) 0 c]) (.cells #[.slice none 0 0, .slice none 0 0, .slice none 0 0, .slice none 0 0, .slice none 0 0] 210))
  have hbl : Hid (Below w.heap.size w (World.alloc _ _)) := hid (((Below.refl _ w).alloc (Nat.le_refl _) (.cells #[.slice (some ⟨lb, 0, none⟩) 0 c] 88)).alloc (by simp) (.cells #[.slice none 0 0, .slice none 0 0, .slice none 0 0, .slice none 0 0, .slice none 0 0] 210))
  refine wp_loop (EmphI g lb n c w) (fun a _ => n - (intOf (a.tmps.getD 10 undef)).toNat) ?_ ?_
  · refine ⟨0, ?_⟩
    iterate 43 (apply Exists.intro)
    exact ⟨⟨Nat.zero_le _, hbl.out, hbx.out⟩, rfl⟩
  · clear hbx hbl
    rintro a0 wr ⟨i, u11, u12, u13, u14, u23, u24, u25, u26, u27, u28, u29, u30, u31, u32, u33, u34, u35, u36, u37, u38, u39, u40, u41, u42, u43, u44, u45, u46, u47, u48, u49, u50, u51, u52, u53, u54, u55, u56, u57, u58, u59, u60, u61, ⟨hi, hbel, hbox⟩, rfl⟩
    try dsimp only
    have HBEL := hid hbel
    have HBOX := hid hbox
    have b0 := hbox.at_ 0 rfl
    have fb := hbox.free
    have hlr : Blk wr lb 132 cs := Blk.mod (S := fun _ => False) HBLK.out (Mod.below' hbel) (fun x => x)
    have HLR := hid hlr
    have hbz := hbox.lt
    clear hbel hbox hlr
    by_cases hlt : i < n
    · have hv0 : i < vs.length := by omega
      have hk0 : i < ks.length := by rw [← HITS.out.1]; exact hv0
      obtain ⟨bb, hv1, _, _⟩ := HITS.out.2 i _ _ (List.getElem?_eq_getElem hv0) (List.getElem?_eq_getElem hk0)
      have hkk := HOK.out _ (List.getElem_mem hk0)
      generalize ks[i]'hk0 = k at hv1 hkk
      have ta1 := hkk.open_ (some ⟨bb, 0, none⟩)
      have ta2 := hkk.emph_ (some ⟨bb, 0, none⟩)
      have hci : cs[i]? = some (.iface k.T (.pointer (some ⟨bb, 0, none⟩))) := by rw [HCELLS.out i hlt, List.getElem?_eq_getElem hv0, hv1]
      have hce : wr.cell? ⟨lb, i, none⟩ = some (.iface k.T (.pointer (some ⟨bb, 0, none⟩))) := HLR.out.at_ i hci
      have HCI := hid hci
      have hsp : ∀ j, j < ([Value.iface k.T (.pointer (some ⟨bb, 0, none⟩))] : List Value).length → ((World.drewN (World.alloc wr (.cells #[.iface k.T (.pointer (some ⟨bb, 0, none⟩))] 132)) 1).cell? ⟨lb, 0 + i * 1 + j, none⟩).isSome = true ∧ (World.drewN (World.alloc wr (.cells #[.iface k.T (.pointer (some ⟨bb, 0, none⟩))] 132)) 1).frozen? ⟨lb, 0 + i * 1 + j, none⟩ = false := fun j hj => by
        obtain rfl : j = 0 := by simp at hj; omega
        have hb' := Blk.drewN (Blk.alloc HLR.out (.cells #[.iface k.T (.pointer (some ⟨bb, 0, none⟩))] 132)) 1
        rw [show 0 + i * 1 + 0 = i from by omega]
        exact ⟨congrArg Option.isSome (hb'.at_ i HCI.out), hb'.free i⟩
      have HSP := hid hsp
      clear hkk hci hv1 hsp
      go_wp2_with fail
      go_region_law (refine step_append_room rfl (.tmp 55) (.tmp 60) 88 (by rfl) 132 is0 1 Tryz.underlying88 his0 hsz1 lb 0 i c (by rfl) ⟨wr.heap.size, 0, none⟩ 1 1 [.iface k.T (.pointer (some ⟨bb, 0, none⟩))] (by rfl) rfl (World.news_of_block (heap_alloc_new _ _)) (by intro v hv; simp at hv; subst hv; rfl) (by omega) (fun j hj => HSP.out j hj) ?_; rw [setCells_one (w := World.drew (World.alloc wr (.cells #[.iface k.T (.pointer (some ⟨bb, 0, none⟩))] 132))) (Blk.alloc HLR.out (.cells #[.iface k.T (.pointer (some ⟨bb, 0, none⟩))] 132)) HCI.out])
      all_goals
        clear ta1 ta2 hce HCI HSP
        go_wp2_with fail
        refine ⟨⟨i + 1, ?_⟩, ?_⟩
        · iterate 43 (apply Exists.intro)
          refine ⟨⟨by omega, ((HBEL.out.setCell (p := ⟨w.heap.size, 0, none⟩) (Nat.le_refl _) _).alloc (by simpa [World.setCell] using HBEL.out.size) _).drew, ?_⟩, rfl⟩
          exact Blk.drewN (Blk.alloc (by simpa using Blk.set_ HBOX.out 0 (.slice (some ⟨lb, 0, none⟩) (i + 1) c)) _) 1
        · simp [intOf]; omega
    · obtain rfl : i = n := by omega
      go_wp2_with fail
      rw [Exit.noGoto_ret]
      go_ret
      exact ⟨rfl, HBEL.out⟩
end Go.Proofs.YtmmijmhdbpldpaaGreatDoor
/- An item of a list of inline texts, by what it prints; what reading an inline text leaves. -/



namespace Go.Proofs.YtmmijmhdbpldpaaGreatDoor
open Go.RowKit
/-- The value prints out, as long as some blocks stay as they stand, none of which is of a type that parsing still turns. -/
def ItemS (B : Nat) (w : World) (v : Value) (out : List UInt8) : Prop :=
  ∃ T : Nat → Prop, (∀ k, T k → B ≤ k ∧ ∃ ty cs, Blk w k ty cs ∧ ty ≠ 95 ∧ ty ≠ 110) ∧ ∀ (w' : World) (S : Nat → Prop), Mod S w w' → (∀ k, T k → ¬ S k) → ∀ b bs, w'.heap.size ≤ b → Prints w' b bs v out
theorem ItemS.prints {B : Nat} {w : World} {v : Value} {out : List UInt8} (h : ItemS B w v out) (b : Nat) (bs : List UInt8) (hb : w.heap.size ≤ b) : Prints w b bs v out := by
  obtain ⟨T, _, h2⟩ := h
  exact h2 w (fun _ => False) (Mod.refl _ w) (fun _ _ x => x) b bs hb
theorem ItemS.mod {B : Nat} {w w' : World} {v : Value} {out : List UInt8} {S : Nat → Prop} (h : ItemS B w v out) (hm : Mod S w w') (hn : ∀ k ty cs, Blk w k ty cs → B ≤ k → ty ≠ 95 → ty ≠ 110 → ¬ S k) : ItemS B w' v out := by
  obtain ⟨T, h1, h2⟩ := h
  have hT : ∀ k, T k → ¬ S k := fun k hk => by
    obtain ⟨hB, ty, cs, hb, q1, q2⟩ := h1 k hk
    exact hn k ty cs hb hB q1 q2
  refine ⟨T, fun k hk => ?_, fun w2 S2 hm2 hn2 b bs hb => h2 w2 (fun k => S k ∨ S2 k) ((hm.mono (fun _ _ h => .inl h)).trans hm2 (fun _ _ h => .inr h)) (fun k hk e => ?_) b bs hb⟩
  · obtain ⟨hB, ty, cs, hb, q1, q2⟩ := h1 k hk
    exact ⟨hB, ty, cs, hb.mod hm (hT k hk), q1, q2⟩
  · rcases e with e | e
    · exact hT k hk e
    · exact hn2 k hk e
theorem ItemS.base {B B2 : Nat} {w : World} {v : Value} {out : List UInt8} (h : ItemS B w v out) (hb : B2 ≤ B) : ItemS B2 w v out := by
  obtain ⟨T, h1, h2⟩ := h
  exact ⟨T, fun k hk => ⟨Nat.le_trans hb (h1 k hk).1, (h1 k hk).2⟩, h2⟩
theorem ItemS.of {B : Nat} {w : World} {v : Value} {k : Kind} {out : List UInt8} (h : IsItem w B v k) (hk : k.Ok) (hp : KPrints k out) : ItemS B w v out := by
  obtain ⟨b, rfl, hblk, hB⟩ := h
  refine ⟨fun k => k = b, fun j e => ?_, fun w' S hm hn b' bs hb' => hp w' B b' bs _ ⟨b, rfl, hblk.mod hm (hn b rfl), hB⟩ hb'⟩
  subst e
  exact ⟨hB, _, _, hblk, hk.ps, hk.text⟩
/-- A list of items, by what each prints. -/
def ItemsS (B : Nat) (w : World) (vs : List Value) (outs : List (List UInt8)) : Prop := outs.length = vs.length ∧ ∀ (i : Nat) v x, vs[i]? = some v → outs[i]? = some x → ItemS B w v x
theorem ItemsS.mod {B : Nat} {w w' : World} {vs : List Value} {outs : List (List UInt8)} {S : Nat → Prop} (h : ItemsS B w vs outs) (hm : Mod S w w') (hn : ∀ k ty cs, Blk w k ty cs → B ≤ k → ty ≠ 95 → ty ≠ 110 → ¬ S k) : ItemsS B w' vs outs :=
  ⟨h.1, fun i v x hv hx => (h.2 i v x hv hx).mod hm hn⟩
theorem ItemsS.base {B B2 : Nat} {w : World} {vs : List Value} {outs : List (List UInt8)} (h : ItemsS B w vs outs) (hb : B2 ≤ B) : ItemsS B2 w vs outs :=
  ⟨h.1, fun i v x hv hx => (h.2 i v x hv hx).base hb⟩
theorem ItemsS.of {B : Nat} {w : World} {vs : List Value} {ks : List Kind} (outK : Kind → List UInt8) (h : IsItems w B vs ks) (hk : ∀ k ∈ ks, k.Ok ∧ KPrints k (outK k)) : ItemsS B w vs (ks.map outK) := by
  refine ⟨by rw [List.length_map, h.1], fun i v x hv hx => ?_⟩
  rw [List.getElem?_map] at hx
  cases hki : ks[i]? with
  | none => rw [hki] at hx; cases hx
  | some k =>
    rw [hki] at hx
    simp only [Option.map_some, Option.some.injEq] at hx
    subst hx
    obtain ⟨h1, h2⟩ := hk k (List.mem_of_getElem? hki)
    exact ItemS.of (h.2 i v k hv hki) h1 h2
/-- What reading an inline text leaves: a list, of which each part prints. -/
def InlPost (g : Nat) (r : PSr) (out : List UInt8) (w : World) (e : Ending) (w' : World) : Prop :=
  ∃ (l : Sl) (vs : List Value) (outs : List (List UInt8)) (c : Bool) (em : Int) (s : ByteArray) (bk : List Value), e = .returned (.slice l.a l.n l.c) ∧ IsPS w' g { r with corner := c, s := s, emitted := em, list := l, back := bk } ∧
    w'.ownsRow w.heap.size 132 1 l.v l.n vs ∧ l.n ≤ 1000000 ∧ ItemsS w.heap.size w' vs outs ∧ outs.flatten = out ∧ Mod (fun k => k = g) w w'
/-- A text's inline texts, whatever the state: what they print. -/
def InlC (o : Opt) (s out : List UInt8) : Prop :=
  ∀ (g : Nat) (r : PSr) (w : World), IsPS w g r → Blk w r.parser 77 o.parser → r.parser ≠ g → r.back.length = 81 → Calls Tryz.prog 56 #[.pointer (some ⟨g, 0, none⟩), .string ⟨s.toArray⟩] w (InlPost g r out w)
/-- As InlC, where no definitions are known. -/
def InlC0 (o : Opt) (s out : List UInt8) : Prop :=
  ∀ (g : Nat) (r : PSr) (w : World), IsPS w g r → Blk w r.parser 77 o.parser → r.parser ≠ g → r.back.length = 81 → r.links = none → Calls Tryz.prog 56 #[.pointer (some ⟨g, 0, none⟩), .string ⟨s.toArray⟩] w (InlPost g r out w)
theorem InlC.to0 {o : Opt} {s out : List UInt8} (h : InlC o s out) : InlC0 o s out := fun g r w a b c d _ => h g r w a b c d
/-- What autoLinkText makes of a list. -/
def AutP (o : Opt) (B g : Nat) (r : PSr) (out : List UInt8) (ks : List Kind) : Prop :=
  ∀ (rr : PSr) (l : Sl) (vs : List Value) (W : World), rr.parser = r.parser → B ≤ W.heap.size → IsPS W g rr → Blk W r.parser 77 o.parser → W.ownsRow B 132 1 l.v l.n vs → l.n = ks.length → IsItems W B vs ks → l.n ≤ 1000000 →
    Calls Tryz.prog 83 #[.pointer (some ⟨g, 0, none⟩), .slice l.a l.n l.c] W fun e w' => ∃ (l' : Sl) (vs' : List Value) (outs : List (List UInt8)), e = .returned (.slice l'.a l'.n l'.c) ∧ w'.ownsRow B 132 1 l'.v l'.n vs' ∧ l'.n ≤ 1000000 ∧ ItemsS B w' vs' outs ∧ outs.flatten = out ∧ Below W.heap.size W w'
set_option maxRecDepth 20000 in
set_option maxHeartbeats 1600000 in
theorem autoText_no (g : Nat) (r : PSr) (o : Opt) (l : Sl) (w : World) (hps : IsPS w g r) (hpar : Blk w r.parser 77 o.parser) (ha : o.auto_ = false) :
    Calls Tryz.prog 83 #[.pointer (some ⟨g, 0, none⟩), .slice l.a l.n l.c] w fun e w' => e = .returned (.slice l.a l.n l.c) ∧ w = w' := by
  have c0 := hps.c0
  have p3 : w.cell? ⟨r.parser, 3, none⟩ = some (.bool o.auto_) := hpar.at_ 3 rfl
  rw [ha] at p3
  go_enter Tryz.func83, Tryz.ntmps83
  go_wp2_with fail
  go_ret
  exact ⟨rfl, rfl⟩
/-- Without the option the list stays as it is. -/
theorem autP_no (o : Opt) (B g : Nat) (r : PSr) (ks : List Kind) (outK : Kind → List UInt8) (ha : o.auto_ = false) (hk : ∀ k ∈ ks, k.Ok ∧ KPrints k (outK k)) : AutP o B g r (ks.flatMap outK) ks := by
  intro rr l vs W hrp hB hps hpar hrow hln hits hn
  refine (autoText_no g rr o l W hps (by rw [hrp]; exact hpar) ha).mono ?_
  rintro e w' ⟨rfl, rfl⟩
  exact ⟨l, vs, ks.map outK, rfl, hrow, hn, ItemsS.of outK hits hk, by rw [List.flatMap_def], Below.refl _ _⟩
end Go.Proofs.YtmmijmhdbpldpaaGreatDoor
/- A text of one line that is a paragraph: its document, and its HTML. -/







namespace Go.Proofs.YtmmijmhdbpldpaaGreatDoor
open Go.RowKit
theorem sz_mk (l : List UInt8) : (ByteArray.mk l.toArray).size = l.length := List.size_toArray ..
def parV (k : Nat) : Value := .iface 153 (.pointer (some ⟨k, 0, none⟩))
/-- A paragraph whose text holds a list that prints. -/
def IsPar (w : World) (B k tb : Nat) (out : List UInt8) : Prop :=
  ∃ (sl el sl2 el2 : Int) (raw : Value) (l : Sl) (vs : List Value) (outs : List (List UInt8)), Blk w k 155 #[.int .i64 sl, .int .i64 el, .pointer (some ⟨tb, 0, none⟩)] ∧ Blk w tb 110 #[.int .i64 sl2, .int .i64 el2, l.v, raw] ∧
    w.ownsRow B 132 1 l.v l.n vs ∧ l.n ≤ 1000000 ∧ ItemsS B w vs outs ∧ outs.flatten = out
theorem IsPar.drewN {w : World} {B k tb : Nat} {out : List UInt8} (h : IsPar w B k tb out) (n : Nat) : IsPar (w.drewN n) B k tb out := by
  obtain ⟨sl, el, sl2, el2, raw, l, vs, outs, hblk, htx, hrow, hn, hits, ho⟩ := h
  exact ⟨sl, el, sl2, el2, raw, l, vs, outs, hblk.drewN n, htx.drewN n, World.ownsRow.drewN hrow n, hn, hits.mod ((Mod.refl (fun _ => False) w).drewN n) (fun _ _ _ _ _ _ _ x => x), ho⟩
theorem par_prints (w : World) (B b k tb : Nat) (bs out : List UInt8) (hb : w.heap.size ≤ b) (h : IsPar w B k tb out) : Prints w b bs (parV k) (paraOut out) := by
  obtain ⟨sl, el, sl2, el2, raw, l, vs, outs, hblk, htx, hrow, hn, hits, rfl⟩ := h
  refine ⟨_, _, 274, .pointer (some ⟨k, 0, none⟩), rfl, fun W => by kernel_rfl, Go.Proofs.enters_of Tryz.func274 (by kernel_rfl) rfl, fun B' W hk hbf hB hl => ?_⟩
  have h1 := hblk.lt
  have h2 := htx.lt
  refine paraHTML_any B' b k tb B bs sl el sl2 el2 raw l vs outs W (hblk.kept hk (by omega) (by decide)) (htx.kept hk (by omega) (by decide)) (own_kept hrow hk (fun e => by have := ownLt hrow e; omega) (by decide)) hn (by omega) (by omega) hbf hB hits.1 (fun i y x bs' hy hx => ((hits.2 i y x hy hx).prints b bs' hb).kept hk) (by omega)
theorem own_base {w : World} {b b2 : Nat} {e : TypeId} {size n : Nat} {v : Value} {xs : List Value} (h : w.ownsRow b e size v n xs) (hb : b2 ≤ b) : w.ownsRow b2 e size v n xs := by
  refine ⟨h.1, ?_⟩
  rcases h.2 with h2 | ⟨g, cap, cur, h3, h4, h5⟩
  · exact .inl h2
  · exact .inr ⟨g, cap, cur, h3, Nat.le_trans hb h4, h5⟩
theorem IsItems.base {w : World} {b b2 : Nat} {vs : List Value} {ks : List Kind} (h : IsItems w b vs ks) (hb : b2 ≤ b) : IsItems w b2 vs ks :=
  ⟨h.1, fun j v k hv hk => by
    obtain ⟨p, h1, h2, h3⟩ := h.2 j v k hv hk
    exact ⟨p, h1, h2, Nat.le_trans hb h3⟩⟩
def ParInv (pb g : Nat) (w0 : World) (o : Opt) (s : List UInt8) (l : List UInt8) (n : Nat) (w : World) : Prop :=
  Below g w0 w ∧ Blk w pb 77 o.parser ∧ ∃ (st : Sl) (a : Option Addr),
    (l = s ∧ n = 0 ∧ IsPS w g { ps0 pb with stack := st } ∧ IsStack w (g + 1) st ([] ++ [rootF a Sl.nil])) ∨
    (∃ (qb : Nat) (v : Sl), l = [] ∧ n = 1 ∧ IsPS w g { ps0 pb with lineno := 1, lineDepth := 0, stack := st } ∧ IsStack w (g + 1) st ([] ++ [rootF a Sl.nil] ++ [parE qb 1 1]) ∧ IsPara w (g + 1) qb v [lineV s] ∧ v.n = 1)
def ParFin (pb g : Nat) (w0 : World) (o : Opt) (s out : List UInt8) (ta : Option Addr) (k : Nat) (w : World) : Prop :=
  Below g w0 w ∧ Blk w pb 77 o.parser ∧ ∃ (r : PSr) (d kb tb ab : Nat) (v1 : Sl) (tc : Nat) (lk : Option Nat), IsPS w g r ∧ r.parser = pb ∧ r.root = some ⟨d, 0, none⟩ ∧ ta = some ⟨ab, 0, none⟩ ∧ r.texts = ⟨ta, 1, tc⟩ ∧ w.ownsRow (g + 1) 105 1 r.texts.v 1 [.pointer (some ⟨tb, 0, none⟩)] ∧
    Blk w d 339 #[.int .i64 0, .int .i64 0, v1.v, .map lk] ∧ v1.n = 1 ∧ w.ownsRow (g + 1) 69 1 v1.v 1 [parV kb] ∧ g < tb ∧
    ((k = 0 ∧ r.back.length = 81 ∧ r.links = none ∧ ∃ (sl el sl2 el2 : Int), Blk w kb 155 #[.int .i64 sl, .int .i64 el, .pointer (some ⟨tb, 0, none⟩)] ∧ Blk w tb 110 #[.int .i64 sl2, .int .i64 el2, .slice none 0 0, .string ⟨s.toArray⟩]) ∨
     (k = 1 ∧ IsPar w (g + 1) kb tb out))
theorem parser_no2 (o : Opt) {w : World} {pb : Nat} (h : Blk w pb 77 o.parser) (ht : o.tasks = false) : w.cell? ⟨pb, 2, none⟩ = some (.bool false) := by
  rw [h.cell]; unfold Opt.parser; rw [ht]; rfl
set_option maxRecDepth 20000 in
theorem parH (pb g : Nat) (w0 : World) (o : Opt) (s out : List UInt8) (hs : ParLine ⟨s.toArray⟩) (hno : 10 ∉ s ∧ 13 ∉ s) (href : RefNo s) (hpb : pb < g) (hi : InlC0 o s out) (ht : o.tasks = false) : ParseH2 pb g 1 (ParInv pb g w0 o s) (ParFin pb g w0 o s out) s.length where
  line := by
    intro l n w ⟨hb, hpar, st, a, h⟩ hne hll
    rcases h with ⟨rfl, rfl, hps, hst⟩ | ⟨_, _, h, _⟩
    · have hsz := hs.size
      have hsl : l.length ≤ 100000 := by rw [sz_mk] at hsz; exact hsz
      have hg := hps.lt
      refine ⟨⟨_, hps, rfl⟩, by omega, ?_⟩
      have hnl : nextLine l = (l, 0, []) := by
        unfold nextLine
        rw [idxB_not _ _ hno.2, idxB_not _ _ hno.1]
        rfl
      rw [hnl]
      have hne2 : some g ≠ st.v.ownBlock := own_ne hst.2 hps (by decide)
      have hpar3 := hpar.far (p := ⟨g, 3, none⟩) (Blk.ne_ hpar hps (by decide)) (.int .i64 ((0 : Nat) + 1))
      refine (addLine_par0 (g + 1) g { ps0 pb with lineno := 1, stack := st } a Sl.nil o.tables 0 ⟨l.toArray⟩ _ (Nat.lt_succ_self _) (by simp; exact hg) (hps.set3 _) (hst.far (p := ⟨g, 3, none⟩) hne2 _) hs hpb (hpar3.at_ 5 rfl)).mono ?_
      rintro e w' ⟨rfl, st2, qb, v, h1, h2, h3, h4, hm⟩
      refine ⟨rfl, ?_, ?_, st2, a, .inr ⟨qb, v, rfl, rfl, h1, h2, h3, h4⟩⟩
      · exact (hb.setCell (p := ⟨g, 3, none⟩) (Nat.le_refl _) _).trans (hm.toBelow (B := g) (by simp; exact Nat.le_of_lt hg) (fun k hk e => by omega))
      · exact hpar3.mod hm (by omega)
    · exact absurd h hne
  drew := by
    intro l n w k ⟨hb, hpar, st, a, h⟩
    refine ⟨below_drewN hb k, hpar.drewN k, st, a, ?_⟩
    rcases h with ⟨h1, h2, hps, hst⟩ | ⟨qb, v, h1, h2, hps, hst, ⟨q1, q2, q3⟩, h4⟩
    · exact .inl ⟨h1, h2, hps.drewN k, hst.drewN k⟩
    · exact .inr ⟨qb, v, h1, h2, hps.drewN k, hst.drewN k, ⟨q1.drewN k, World.ownsRow.drewN q2 k, q3⟩, h4⟩
  trim := by
    intro n w ⟨hb, hpar, st, a, h⟩
    rcases h with ⟨h1, _, _, _⟩ | ⟨qb, v, h1, h2, hps, hst, hp, h4⟩
    · exfalso
      have := hs.pos
      subst h1
      simp [ByteArray.size] at this
    · have hg := hps.lt
      have hsz := hs.size
      have hpo := hs.pos
      have hj : joinT [⟨s.toArray⟩] = s := by unfold joinT; rw [List.map_cons, List.map_nil, Lib.join_cons]; simp [Lib.joinTail]
      have hH : ParaHead (joinT [⟨s.toArray⟩]) := by
        rw [hj]
        rw [sz_mk] at hpo hsz
        exact ⟨hpo, by omega, href⟩
      refine (trim_leaf0 (g + 1) g _ a Sl.nil 0 0 (parE qb 1 1) [] 153 _ w hps hst (closePara_any (g + 1) g qb _ (rootF a Sl.nil) [] v [⟨s.toArray⟩] [] 1 1 w hg hps hst (World.ownsRow_nil _ _ _ _) (by show 0 ≤ 1000000; omega) hp h4 (World.ownsRow_nil _ _ _ _) (by show 0 ≤ 1000000; omega) (by omega) (by simp) (by simp) hH)).mono ?_
      rintro e w' ⟨rfl, r', kb, w1, v1, st2, d, ⟨tb, l, rfl, q1, q2, q3, q4, q5, q6, q7⟩, hd, hps2, hv1, hrow, hdoc, hm⟩
      rw [hj] at q4
      have hbel : Below g w w' := (q7.toBelow (B := g) (Nat.le_of_lt hg) (fun k hk e => by
          rcases e with e | e
          · omega
          · cases e)).trans (hm.toBelow (B := g) (Nat.le_trans (Nat.le_of_lt hg) q7.size) (fun k hk e => by
          rcases e with e | e | e
          · omega
          · have := ownBase hst.2 e; omega
          · cases e))
      obtain ⟨la, ln, lc⟩ := l
      obtain rfl : ln = 1 := q6
      have hst1 := hst.mod q7 (fun k hk e => by
        rcases e with e | e
        · subst e; exact own_ne hst.2 hps (by decide) hk.symm
        · cases e)
      have h5 : w1.ownsRow (g + 1) 105 1 (.slice la 1 lc) 1 [.pointer (some ⟨tb, 0, none⟩)] := q5
      have hrowt : w'.ownsRow (g + 1) 105 1 (.slice la 1 lc) 1 [.pointer (some ⟨tb, 0, none⟩)] := by
        refine own_mod h5 hm (fun q hq e => ?_)
        rcases e with e | e | e
        · have := ownBase h5 hq.symm; omega
        · exact ownApart h5 hst1.2 (by decide) hq e.symm
        · cases e
      obtain ⟨ab, cs, hab, _⟩ := row_blk hrowt (Nat.succ_pos 0)
      have hv1' : v1.n = 1 := hv1
      rw [hv1'] at hrow
      have kp := q3.mod hm (fun e => by
        rcases e with e | e | e
        · omega
        · exact own_ne hst1.2 q3 (by decide) e
        · cases e)
      have kt := q4.mod hm (fun e => by
        rcases e with e | e | e
        · omega
        · exact own_ne hst1.2 q4 (by decide) e
        · cases e)
      exact ⟨rfl, la, hb.trans hbel, hpar.mod (Mod.below hbel (S := fun k => g ≤ k) (fun k _ h => h)) (by omega), _, d, kb, tb, ab, v1, lc, _, hps2, rfl, rfl, hab, rfl, hrowt, hdoc, hv1', hrow, by omega, .inl ⟨rfl, rfl, rfl, _, _, _, _, kp, kt⟩⟩
  at_ := by
    intro ta k w ⟨hb, hpar, r, d, kb, tb, ab, v1, tc, lk, hps, hrp, hroot, hta, htx, _⟩
    exact ⟨by omega, r, tc, hps, htx, parser_no2 o hpar ht⟩
  text := by
    intro ta k w ⟨hb, hpar, r, d, kb, tb, ab, v1, tc, lk, hps, hrp, hroot, hta, htx, hrt, hdoc, hv1, hrow, hgt, hk⟩ hk1
    rcases hk with ⟨rfl, hbk, hlk, sl, el, sl2, el2, hkp, hkt⟩ | ⟨rfl, _⟩
    · subst hta
      have hrt2 := hrt
      rw [htx] at hrt2
      obtain ⟨ab', cs, hab, hblk, _, _, _, hcl, _⟩ := row_blk hrt2 (Nat.succ_pos 0)
      simp only [Option.some.injEq, Addr.mk.injEq] at hab
      obtain ⟨rfl, _⟩ := hab
      have hgl := hps.lt
      have hrg : r.parser ≠ g := by rw [hrp]; omega
      refine ⟨ab, 0, tb, ⟨s.toArray⟩, rfl, hblk.at_ 0 (hcl 0 (by omega)), hkt.at_ 3 rfl, (hi g r w hps (by rw [hrp]; exact hpar) hrg hbk hlk).mono ?_⟩
      rintro e w' ⟨l, vs, outs, c, em, s2, bk, rfl, hps', hrl, hn, hits, hout, hm⟩
      have hkt' := hkt.mod hm (by omega)
      refine ⟨l.a, l.n, l.c, rfl, ⟨_, hkt'.at_ 2 rfl⟩, hkt'.free 2, ?_⟩
      have htg : tb ≠ g := by omega
      have hm2 : Mod (fun k => k = tb) w' (w'.setCell ⟨tb, 2, none⟩ (.slice l.a l.n l.c)) := (Mod.refl (fun k => k = tb) w').setCell (p := ⟨tb, 2, none⟩) (.inl rfl) _
      have hm3 := (hm.mono (S' := fun k => k = g ∨ k = tb) (fun _ _ h => .inl h)).trans hm2 (fun _ _ h => .inr h)
      have hg1 : g + 1 ≤ w.heap.size := hgl
      refine ⟨hb.trans (hm3.toBelow (B := g) (Nat.le_of_lt hgl) (fun k hk e => by omega)), hpar.mod hm3 (by omega), _, d, kb, tb, ab, v1, tc, lk, hps'.far (p := ⟨tb, 2, none⟩) (fun e => htg e.symm) _, hrp, hroot, rfl, htx, ?_, ?_, hv1, ?_, hgt, .inr ⟨rfl, sl, el, sl2, el2, .string ⟨s.toArray⟩, l, vs, outs, ?_, ?_, ?_, hn, ?_, hout⟩⟩
      · exact own_mod hrt hm3 (fun q hq e => by
          rcases e with e | e
          · have := ownBase hrt hq.symm; omega
          · subst e; exact own_ne hrt hkt (by decide) hq.symm)
      · exact hdoc.mod hm3 (fun e => by
          rcases e with e | e
          · exact Blk.ne_ hdoc hps (by decide) e
          · exact Blk.ne_ hdoc hkt (by decide) e)
      · exact own_mod hrow hm3 (fun q hq e => by
          rcases e with e | e
          · have := ownBase hrow hq.symm; omega
          · subst e; exact own_ne hrow hkt (by decide) hq.symm)
      · exact hkp.mod hm3 (fun e => by
          rcases e with e | e
          · exact Blk.ne_ hkp hps (by decide) e
          · exact Blk.ne_ hkp hkt (by decide) e)
      · exact hkt'.set_ 2 _
      · exact own_base (own_far hrl (p := ⟨tb, 2, none⟩) (own_ne hrl hkt' (by decide)) _) hg1
      · exact (hits.mod hm2 (fun k ty cs hbk _ _ ht e => by subst e; exact Blk.ne_ hbk hkt' ht rfl)).base hg1
    · omega
theorem paraOut_len (out : List UInt8) : (paraOut out).length = out.length + 8 := by unfold paraOut; simp
set_option maxRecDepth 20000 in
theorem HTML_parR (o : Opt) (s out : List UInt8) (w : World) (hs : ParLine ⟨s.toArray⟩) (hno : 10 ∉ s ∧ 13 ∉ s ∧ 0 ∉ s) (href : RefNo s) (hi : InlC0 o s out) (ht : o.tasks = false) (hol : out.length ≤ 900000) :
    Calls Tryz.prog 11 #[o.v, .string ⟨s.toArray⟩] w fun e w' => e = .returned (.string ⟨(paraOut out).toArray⟩) ∧ Below w.heap.size w w' := by
  refine HTML_gen2 o _ w (paraOut out) (fun pb w1 hbw hblkp => ?_)
  have hsz := hs.size
  have hsl : s.length ≤ 100000 := by rw [sz_mk] at hsz; exact hsz
  have hpb : pb < w1.heap.size := hblkp.lt
  have hpo := paraOut_len out
  have hpar : Calls Tryz.prog 43 #[.pointer (some ⟨pb, 0, none⟩), .string ⟨s.toArray⟩] w1 fun e w' => ∃ d c, e = .returned (.tuple #[.pointer (some ⟨d, 0, none⟩), .bool c]) ∧ DocPrints w' d (paraOut out) ∧ Below w1.heap.size w1 w' := by
    refine (parse_gen2 pb _ w1 1 (ParInv pb w1.heap.size w1 o s) (ParFin pb w1.heap.size w1 o s out) (by omega) (idxB_not _ 0 hno.2.2) (parH pb w1.heap.size w1 o s out hs ⟨hno.1, hno.2.1⟩ href hpb hi ht) ?_).mono ?_
    · intro w' bn hps hb
      refine (addBlock_top (w1.heap.size + 1) w1.heap.size (ps0 pb) [] w' 98 (.pointer (some ⟨bn, 0, none⟩)) hps.lt hps ⟨rfl, World.ownsRow_nil _ _ _ _⟩ rfl (by simp)).mono ?_
      rintro e w2 ⟨rfl, v, hps1, hst, _, hm⟩
      refine ⟨rfl, ?_, ?_, v, some ⟨bn, 0, none⟩, .inl ⟨rfl, rfl, hps1, hst⟩⟩
      · exact hb.trans (hm.toBelow (B := w1.heap.size) hb.size (fun k hk e => by
          rcases e with e | e
          · omega
          · simp [ps0, Sl.nil, Value.ownBlock] at e))
      · refine (hblkp.mod (S := fun _ => False) (Mod.below' hb) (fun x => x)).mod hm (fun e => ?_)
        rcases e with e | e
        · omega
        · simp [ps0, Sl.nil, Value.ownBlock] at e
    · rintro e w' ⟨ta, r, k, rfl, hps, w0, ⟨hb, _, r0, d, kb, tb, ab, v1, tc, lk, hps0, _, hroot, _, _, _, hdoc, hv1, hrow, _, hk⟩, rfl⟩
      have h1 := hps.c1
      have h2 := hps0.c1
      rw [show (w0.drewN k).cell? ⟨w1.heap.size, 1, none⟩ = w0.cell? ⟨w1.heap.size, 1, none⟩ from rfl, h2, hroot] at h1
      simp only [Option.some.injEq, Value.pointer.injEq] at h1
      rw [← h1]
      rcases hk with ⟨h, _⟩ | ⟨_, hpar⟩
      · omega
      · refine ⟨d, _, rfl, ⟨0, 0, v1, lk, w1.heap.size + 1, [parV kb], [paraOut out], hdoc, ?_, by omega, by simp, by omega, rfl, ?_⟩, below_drewN hb k⟩
        · rw [hv1]; exact World.ownsRow.drewN hrow k
        · intro b i y x hbz hy hx
          cases i with
          | zero =>
            simp at hy hx
            subst hy hx
            exact par_prints _ (w1.heap.size + 1) b kb tb _ out hbz (hpar.drewN k)
          | succ i => simp at hy
  go_enter Tryz.func29, Tryz.ntmps29
  go_wp2_with (go_at_call 43; refine hpar.mono ?_; rintro e w1 ⟨d, c, rfl, hd, hb⟩)
  go_ret
  exact ⟨d, rfl, hd, hb⟩
theorem HTML_par (o : Opt) (s out : List UInt8) (w : World) (hs : ParLine ⟨s.toArray⟩) (hno : 10 ∉ s ∧ 13 ∉ s ∧ 0 ∉ s) (h91 : bt ⟨s.toArray⟩ 0 ≠ 91) (hi : InlC o s out) (ht : o.tasks = false) (hol : out.length ≤ 900000) :
    Calls Tryz.prog 11 #[o.v, .string ⟨s.toArray⟩] w fun e w' => e = .returned (.string ⟨(paraOut out).toArray⟩) ∧ Below w.heap.size w w' := by
  have hsz := hs.size
  have hpo := hs.pos
  rw [sz_mk] at hsz hpo
  refine HTML_parR o s out w hs hno (refNo_plain s hpo (by omega) (fun c hc => ?_)) hi.to0 ht hol
  have hb0 : bt ⟨s.toArray⟩ 0 = (c.toNat : Int) := by rw [bt_list, hc]
  have q1 := hs.h32
  have q2 := hs.tab 0
  rw [hb0] at q1 q2 h91
  exact ⟨fun e => q1 (by rw [e]; rfl), fun e => q2 (by rw [e]; rfl), fun e => hno.1 (by rw [← e]; exact List.mem_of_getElem? hc), fun e => h91 (by rw [e]; rfl)⟩
end Go.Proofs.YtmmijmhdbpldpaaGreatDoor
/- The builder of a block of HTML: what it holds, and a further line. -/



namespace Go.Proofs.YtmmijmhdbpldpaaGreatDoor
open Go.RowKit
/-- How a block of HTML ends: at a blank line, with an end tag of some names, or with a text. -/
inductive EndK where
  | non
  | pre
  | str (q : List UInt8)
def IsEndF (w : World) (B : Nat) (row : Option Nat) (fn : Value) : EndK → Prop
  | .non => fn = .nilFunc
  | .pre => fn = .func (Fn.func 181) #[] #[]
  | .str q => ∃ eb, fn = .func (Fn.func 179) #[] #[.pointer (some ⟨eb, 0, none⟩)] ∧ Blk w eb 9 #[.string ⟨q.toArray⟩] ∧ B ≤ eb ∧ row ≠ some eb
def EndK.blank : EndK → Bool
  | .non => true
  | _ => false
/-- Whether a line is the last one. -/
def EndsB : EndK → List UInt8 → Bool → Prop
  | .non, _, b => b = false
  | .pre, t, b => ∀ W, Calls Tryz.prog 181 #[.string ⟨t.toArray⟩] W fun e w' => e = .returned (.bool b) ∧ Below W.heap.size W w'
  | .str q, t, b => hasB t q = b ∧ 0 < q.length ∧ q.length ≤ 100
def IsHtm (w : World) (B hb : Nat) (eb : Bool) (v : Sl) (ls : List Value) (fn : Value) (k : EndK) : Prop :=
  Blk w hb 284 #[.bool eb, v.v, fn] ∧ w.ownsRow B 9 1 v.v v.n ls ∧ B ≤ hb ∧ IsEndF w B v.v.ownBlock fn k
theorem htmlEnd_str (t q : List UInt8) (eb : Nat) (w : World) (ht : t.length ≤ 100000) (hq0 : 0 < q.length) (hq : q.length ≤ 100) (h : w.cell? ⟨eb, 0, none⟩ = some (.string ⟨q.toArray⟩)) :
    Calls Tryz.prog 179 #[.string ⟨t.toArray⟩, .pointer (some ⟨eb, 0, none⟩)] w fun e w' => e = .returned (.bool (hasB t q)) ∧ w = w' := by
  have HZ := hid (zzContains_b t q w (by omega) hq0 (by omega))
  go_enter Tryz.func179, Tryz.ntmps179
  go_wp2_with fail
  refine HZ.out.mono ?_
  rintro e w' ⟨rfl, rfl⟩
  go_wp2_with fail
  go_ret
  exact ⟨rfl, rfl⟩
def HtmExtP (B hb : Nat) (eb : Bool) (v : Sl) (ls : List Value) (fn : Value) (k : EndK) (l : List UInt8) (w w' : World) : Prop :=
  ∃ v' : Sl, v'.n = v.n + 1 ∧ IsHtm w' B hb eb v' (ls ++ [lineV l]) fn k ∧ Mod (fun j => j = hb ∨ some j = v.v.ownBlock) w w'
set_option maxRecDepth 20000 in
set_option maxHeartbeats 8000000 in
theorem htm_extend (B g hb : Nat) (eb : Bool) (v : Sl) (ls : List Value) (fn : Value) (k : EndK) (nl : Int) (l : List UInt8) (b : Bool) (w : World) (_ : B ≤ w.heap.size) (h : IsHtm w B hb eb v ls fn k) (hvn : v.n ≤ 1000) (heb : eb = k.blank) (hl : l.length ≤ 10000) (hend : EndsB k l b) (hbl : eb = true → (trimL l).isEmpty = false) :
    Calls Tryz.prog 342 #[.pointer (some ⟨hb, 0, none⟩), .pointer (some ⟨g, 0, none⟩), lnV 0 0 ⟨l.toArray⟩ nl] w fun e w' => e = .returned (.tuple #[lnV 0 0 ⟨#[]⟩ 0, .bool (!b)]) ∧ HtmExtP B hb eb v ls fn k l w w' := by
  obtain ⟨is0, his, hsz0, hsz1, hsz2⟩ := info_parts infoStrP
  obtain ⟨va, vn, vc⟩ := v
  dsimp only at hvn
  obtain ⟨hblk, hrow, hBh, hef⟩ := h
  have hsz : (ByteArray.mk l.toArray).size = l.length := sz_mk l
  have HBLK := hid hblk
  have HROW := hid hrow
  have HEF := hid hef
  have HEND := hid hend
  have HEB := hid heb
  have hbw := hblk.lt
  clear hblk hrow hef hend heb
  have pre : ∀ (W : World) (q : Nat), W = World.drewN (World.alloc (World.alloc w (.cells #[.int .i64 0, .int .i64 0, .int .i64 0, .string ⟨l.toArray⟩, .int .u8 nl] 104)) (.cells #[.int .i64 0, .int .i64 0, .int .i64 0, .string ⟨#[]⟩, .int .u8 0] 104)) q → IsLn W w.heap.size 0 0 ⟨l.toArray⟩ nl ∧ Blk W (w.heap.size + 1) 104 #[.int .i64 0, .int .i64 0, .int .i64 0, .string ⟨#[]⟩, .int .u8 0] ∧ Below w.heap.size w W ∧ w.heap.size + 2 ≤ W.heap.size := by
    rintro W q rfl
    exact ⟨Blk.drewN (Blk.alloc (Blk.new' rfl) _) q, Blk.drewN (Blk.new' (by simp)) q, below_drewN (((Below.refl _ _).alloc (Nat.le_refl _) _).alloc (by simp) _) q, by simp⟩
  have HPRE := hid pre
  clear pre
  have c0 : w.cell? ⟨hb, 0, none⟩ = some (.bool eb) := HBLK.out.at_ 0 rfl
  have HX : Hid ((ByteArray.mk l.toArray).extract 0 (ByteArray.mk l.toArray).size = ⟨l.toArray⟩) := hid (by rw [extract_end]; simp)
  go_enter Tryz.func342, Tryz.ntmps342
  cases k with
  | non =>
    obtain ⟨rfl, rfl⟩ : eb = true ∧ fn = .nilFunc := ⟨HEB.out, HEF.out⟩
    obtain rfl : b = false := HEND.out
    have HBL := hid (hbl rfl)
    clear hbl
    go_wp2_with fail
    refine (isBlank_any w.heap.size ⟨l.toArray⟩ 0 _ (Nat.zero_le _) (by omega) ?_ ?_).mono ?_
    · exact ((HPRE.out _ 0 rfl).1).c1
    · exact ((HPRE.out _ 0 rfl).1).c3
    rintro e w1 ⟨rfl, n1, rfl⟩
    rw [show trimL ((ByteArray.mk l.toArray).data.toList.drop 0) = trimL l from by simp, HBL.out]
    go_wp2_with fail
    have HP := hid (HPRE.out _ n1 rfl)
    generalize World.drewN _ n1 = wa at HP ⊢
    refine (string_any w.heap.size 0 0 nl ⟨l.toArray⟩ wa HP.out.1 (by omega) (Nat.zero_le _)).mono ?_
    rintro e w2 ⟨rfl, n2, rfl⟩
    rw [HX.out]
    have HLb : Hid (Blk (wa.drewN n2) (w.heap.size + 1) 104 #[.int .i64 0, .int .i64 0, .int .i64 0, .string ⟨#[]⟩, .int .u8 0]) := hid (HP.out.2.1.drewN n2)
    have HBb : Hid (Below w.heap.size w (wa.drewN n2)) := hid (below_drewN HP.out.2.2.1 n2)
    have hzb : w.heap.size + 2 ≤ (wa.drewN n2).heap.size := by simpa using HP.out.2.2.2
    clear HP
    generalize World.drewN wa n2 = wb at HLb HBb hzb ⊢
    have HKb := hid (HBLK.out.mod (Mod.below' (S := fun _ => False) HBb.out) (fun x => x))
    have HRb := hid (own_mod HROW.out (Mod.below' (S := fun _ => False) HBb.out) (fun _ _ x => x))
    have p1 : wb.cell? ⟨hb, 1, none⟩ = some (.slice va vn vc) := HKb.out.at_ 1 rfl
    have fp := HKb.out.free
    have hl2 : ¬ hb = w.heap.size + 1 := by omega
    have hl3 : ¬ w.heap.size + 1 = hb := by omega
    go_wp2_with (at_builtin; refine wpList_append_lies _ rfl (.tmp 22) (.tmp 24) 33 (by rfl) B 9 is0 _ 1 16 Tryz.underlying33 his hsz0 hsz1 hsz2 rfl (by decide) (.slice va vn vc) vn ls (by rfl) (World.ownsRow.alloc HRb.out _) ⟨wb.heap.size, 0, none⟩ 1 1 [.string ⟨l.toArray⟩] (by rfl) rfl (World.news_of_block (heap_alloc_new _ _)) (by intro v hv; simp at hv; subst hv; rfl) (by omega) (by unfold maxLen; omega) (by omega) (by simp; omega) (wb.heap.size + 1) (by simp) ?_
                 intro g2 cap2 w4 hown4 hgr4 hat4 hlt4
                 have hp4 : Blk w4 hb 284 #[.bool true, .slice va vn vc, .nilFunc] := Blk.grown (Blk.alloc HKb.out _) hgr4 (own_ne HRb.out HKb.out (by decide))
                 have q1 : w4.cell? ⟨hb, 1, none⟩ = some (.slice va vn vc) := hp4.at_ 1 rfl
                 have fq := hp4.free
                 have q2 : (w4.setCell ⟨hb, 1, none⟩ (.slice (some ⟨g2, 0, none⟩) (vn + 1) cap2)).cell? ⟨hb, 2, none⟩ = some .nilFunc := (Blk.set_ hp4 1 _).at_ 2 rfl
                 have hr4 : Blk w4 (w.heap.size + 1) 104 #[.int .i64 0, .int .i64 0, .int .i64 0, .string ⟨#[]⟩, .int .u8 0] := Blk.grown (Blk.alloc HLb.out _) hgr4 (own_ne HRb.out HLb.out (by decide))
                 have r0 := hr4.at_ 0 rfl
                 have r1 := hr4.at_ 1 rfl
                 have r2 := hr4.at_ 2 rfl
                 have r3 := hr4.at_ 3 rfl
                 have r4 := hr4.at_ 4 rfl
                 have fr := hr4.free)
    have hK5 := Blk.set_ hp4 1 (.slice (some ⟨g2, 0, none⟩) (vn + 1) cap2)
    have hO5 := own_far hown4 (p := ⟨hb, 1, none⟩) (own_ne hown4 hp4 (by decide)) (.slice (some ⟨g2, 0, none⟩) (vn + 1) cap2)
    have hR5 := hr4.far (p := ⟨hb, 1, none⟩) (Blk.ne_ hr4 hp4 (by decide)) (.slice (some ⟨g2, 0, none⟩) (vn + 1) cap2)
    have hM4 : Mod (fun j => j = hb ∨ some j = (Value.slice va vn vc).ownBlock) w w4 := Mod.grown ((Mod.below' HBb.out).alloc _) hgr4 (fun q hq => .inl (.inr hq.symm))
    have hM5 := hM4.setCell (p := ⟨hb, 1, none⟩) (.inl (.inl rfl)) (.slice (some ⟨g2, 0, none⟩) (vn + 1) cap2)
    have hz4 : w.heap.size + 2 ≤ w4.heap.size := by have h1 := hgr4.size; simp at h1; omega
    have hz5 : (w4.setCell ⟨hb, 1, none⟩ (.slice (some ⟨g2, 0, none⟩) (vn + 1) cap2)).heap.size = w4.heap.size := by simp [World.setCell]
    have hg2 : ∀ x, x < w.heap.size → (Value.slice va vn vc).ownBlock ≠ some x → some g2 ≠ some x := fun x hx hne e => by
      simp only [Option.some.injEq] at e
      subst e
      rcases hat4 with h | h
      · exact hne h
      · omega
    have HK5 := hid hK5
    have HO5 := hid hO5
    have HR5 := hid hR5
    have HM5 := hid hM5
    have HG2 := hid hg2
    clear hK5 hO5 hR5 hM4 hM5 hg2 hown4 hgr4 hat4 hlt4 hp4 q1 fq r0 r1 r2 r3 r4 fr hr4 p1 fp HKb HRb HLb
    generalize World.setCell w4 ⟨hb, 1, none⟩ _ = wc at HK5 HO5 HR5 HM5 q2 hz5 ⊢
    have FIN : Hid (∀ wy, Mod (fun j => j = w.heap.size + 1 ∨ wc.heap.size ≤ j) wc wy → HtmExtP B hb true ⟨va, vn, vc⟩ ls .nilFunc .non l w wy) := hid (fun wy hm => ⟨⟨some ⟨g2, 0, none⟩, vn + 1, cap2⟩, rfl, ⟨by simpa using HK5.out.mod hm (by have := HM5.out.size; omega), own_mod HO5.out hm (fun q hq e => by
      rcases e with e | e
      · subst e; exact own_ne HO5.out HR5.out (by decide) hq.symm
      · have := ownLt HO5.out hq.symm; omega), hBh, rfl⟩, HM5.out.trans hm (fun q hq e => by omega)⟩)
    have hr5 := HR5.out
    have r0 := hr5.at_ 0 rfl
    have r1 := hr5.at_ 1 rfl
    have r2 := hr5.at_ 2 rfl
    have r3 := hr5.at_ 3 rfl
    have r4 := hr5.at_ 4 rfl
    have fr := hr5.free
    have ff := HK5.out.free
    have nf : ∀ W, Sem.run Tryz.prog (binOp BinOp.neq 22 .nilFunc .nilFunc) W = .ok (.bool false) W := fun _ => by kernel_rfl
    have HRy := HR5
    rw [nf]
    simp only [Result.andThen]
    rw [Oper.upon_value]
    go_wp2_with fail
    all_goals
      have hln := hid (line_zero HRy.out)
      have hmy : Hid (Mod (fun k => k = w.heap.size + 1) wc _) := hid ((((((Mod.refl (fun k => k = w.heap.size + 1) wc).setCell (p := ⟨w.heap.size + 1, 0, none⟩) (.inl rfl) (.int .i64 0)).setCell (p := ⟨w.heap.size + 1, 1, none⟩) (.inl rfl) (.int .i64 0)).setCell (p := ⟨w.heap.size + 1, 2, none⟩) (.inl rfl) (.int .i64 0)).setCell (p := ⟨w.heap.size + 1, 3, none⟩) (.inl rfl) (.string ⟨#[]⟩)).setCell (p := ⟨w.heap.size + 1, 4, none⟩) (.inl rfl) (.int .u8 0))
      generalize World.setCell _ ⟨w.heap.size + 1, 4, none⟩ _ = wy at hln hmy ⊢
      have hl4 := hln.out
      have k0 := hl4.at_ 0 rfl
      have k1 := hl4.at_ 1 rfl
      have k2 := hl4.at_ 2 rfl
      have k3 := hl4.at_ 3 rfl
      have k4 := hl4.at_ 4 rfl
      clear hl4
      refine bodyPost_ret (by simp [results, Tryz.results342, go_sem, k0, k1, k2, k3, k4]; try rfl) rfl ?_
      exact ⟨rfl, FIN.out wy (hmy.out.mono (fun q hq e => .inl e))⟩
  | pre =>
    obtain ⟨rfl, rfl⟩ : eb = false ∧ fn = (.func (Fn.func 181) #[] #[]) := ⟨HEB.out, HEF.out⟩
    go_wp2_with fail
    have HP := hid (HPRE.out (World.alloc (World.alloc w (.cells #[.int .i64 0, .int .i64 0, .int .i64 0, .string ⟨l.toArray⟩, .int .u8 nl] 104)) (.cells #[.int .i64 0, .int .i64 0, .int .i64 0, .string ⟨#[]⟩, .int .u8 0] 104)) 0 rfl)
    generalize World.alloc _ _ = wa at HP ⊢
    refine (string_any w.heap.size 0 0 nl ⟨l.toArray⟩ wa HP.out.1 (by omega) (Nat.zero_le _)).mono ?_
    rintro e w2 ⟨rfl, n2, rfl⟩
    rw [HX.out]
    have HLb : Hid (Blk (wa.drewN n2) (w.heap.size + 1) 104 #[.int .i64 0, .int .i64 0, .int .i64 0, .string ⟨#[]⟩, .int .u8 0]) := hid (HP.out.2.1.drewN n2)
    have HBb : Hid (Below w.heap.size w (wa.drewN n2)) := hid (below_drewN HP.out.2.2.1 n2)
    have hzb : w.heap.size + 2 ≤ (wa.drewN n2).heap.size := by simpa using HP.out.2.2.2
    clear HP
    generalize World.drewN wa n2 = wb at HLb HBb hzb ⊢
    have HKb := hid (HBLK.out.mod (Mod.below' (S := fun _ => False) HBb.out) (fun x => x))
    have HRb := hid (own_mod HROW.out (Mod.below' (S := fun _ => False) HBb.out) (fun _ _ x => x))
    have p1 : wb.cell? ⟨hb, 1, none⟩ = some (.slice va vn vc) := HKb.out.at_ 1 rfl
    have fp := HKb.out.free
    have hl2 : ¬ hb = w.heap.size + 1 := by omega
    have hl3 : ¬ w.heap.size + 1 = hb := by omega
    go_wp2_with (at_builtin; refine wpList_append_lies _ rfl (.tmp 22) (.tmp 24) 33 (by rfl) B 9 is0 _ 1 16 Tryz.underlying33 his hsz0 hsz1 hsz2 rfl (by decide) (.slice va vn vc) vn ls (by rfl) (World.ownsRow.alloc HRb.out _) ⟨wb.heap.size, 0, none⟩ 1 1 [.string ⟨l.toArray⟩] (by rfl) rfl (World.news_of_block (heap_alloc_new _ _)) (by intro v hv; simp at hv; subst hv; rfl) (by omega) (by unfold maxLen; omega) (by omega) (by simp; omega) (wb.heap.size + 1) (by simp) ?_
                 intro g2 cap2 w4 hown4 hgr4 hat4 hlt4
                 have hp4 : Blk w4 hb 284 #[.bool false, .slice va vn vc, (.func (Fn.func 181) #[] #[])] := Blk.grown (Blk.alloc HKb.out _) hgr4 (own_ne HRb.out HKb.out (by decide))
                 have q1 : w4.cell? ⟨hb, 1, none⟩ = some (.slice va vn vc) := hp4.at_ 1 rfl
                 have fq := hp4.free
                 have q2 : (w4.setCell ⟨hb, 1, none⟩ (.slice (some ⟨g2, 0, none⟩) (vn + 1) cap2)).cell? ⟨hb, 2, none⟩ = some (.func (Fn.func 181) #[] #[]) := (Blk.set_ hp4 1 _).at_ 2 rfl
                 have hr4 : Blk w4 (w.heap.size + 1) 104 #[.int .i64 0, .int .i64 0, .int .i64 0, .string ⟨#[]⟩, .int .u8 0] := Blk.grown (Blk.alloc HLb.out _) hgr4 (own_ne HRb.out HLb.out (by decide))
                 have r0 := hr4.at_ 0 rfl
                 have r1 := hr4.at_ 1 rfl
                 have r2 := hr4.at_ 2 rfl
                 have r3 := hr4.at_ 3 rfl
                 have r4 := hr4.at_ 4 rfl
                 have fr := hr4.free)
    have hK5 := Blk.set_ hp4 1 (.slice (some ⟨g2, 0, none⟩) (vn + 1) cap2)
    have hO5 := own_far hown4 (p := ⟨hb, 1, none⟩) (own_ne hown4 hp4 (by decide)) (.slice (some ⟨g2, 0, none⟩) (vn + 1) cap2)
    have hR5 := hr4.far (p := ⟨hb, 1, none⟩) (Blk.ne_ hr4 hp4 (by decide)) (.slice (some ⟨g2, 0, none⟩) (vn + 1) cap2)
    have hM4 : Mod (fun j => j = hb ∨ some j = (Value.slice va vn vc).ownBlock) w w4 := Mod.grown ((Mod.below' HBb.out).alloc _) hgr4 (fun q hq => .inl (.inr hq.symm))
    have hM5 := hM4.setCell (p := ⟨hb, 1, none⟩) (.inl (.inl rfl)) (.slice (some ⟨g2, 0, none⟩) (vn + 1) cap2)
    have hz4 : w.heap.size + 2 ≤ w4.heap.size := by have h1 := hgr4.size; simp at h1; omega
    have hz5 : (w4.setCell ⟨hb, 1, none⟩ (.slice (some ⟨g2, 0, none⟩) (vn + 1) cap2)).heap.size = w4.heap.size := by simp [World.setCell]
    have hg2 : ∀ x, x < w.heap.size → (Value.slice va vn vc).ownBlock ≠ some x → some g2 ≠ some x := fun x hx hne e => by
      simp only [Option.some.injEq] at e
      subst e
      rcases hat4 with h | h
      · exact hne h
      · omega
    have HK5 := hid hK5
    have HO5 := hid hO5
    have HR5 := hid hR5
    have HM5 := hid hM5
    have HG2 := hid hg2
    clear hK5 hO5 hR5 hM4 hM5 hg2 hown4 hgr4 hat4 hlt4 hp4 q1 fq r0 r1 r2 r3 r4 fr hr4 p1 fp HKb HRb HLb
    generalize World.setCell w4 ⟨hb, 1, none⟩ _ = wc at HK5 HO5 HR5 HM5 q2 hz5 ⊢
    have FIN : Hid (∀ wy, Mod (fun j => j = w.heap.size + 1 ∨ wc.heap.size ≤ j) wc wy → HtmExtP B hb false ⟨va, vn, vc⟩ ls (.func (Fn.func 181) #[] #[]) .pre l w wy) := hid (fun wy hm => ⟨⟨some ⟨g2, 0, none⟩, vn + 1, cap2⟩, rfl, ⟨by simpa using HK5.out.mod hm (by have := HM5.out.size; omega), own_mod HO5.out hm (fun q hq e => by
      rcases e with e | e
      · subst e; exact own_ne HO5.out HR5.out (by decide) hq.symm
      · have := ownLt HO5.out hq.symm; omega), hBh, rfl⟩, HM5.out.trans hm (fun q hq e => by omega)⟩)
    have hr5 := HR5.out
    have r0 := hr5.at_ 0 rfl
    have r1 := hr5.at_ 1 rfl
    have r2 := hr5.at_ 2 rfl
    have r3 := hr5.at_ 3 rfl
    have r4 := hr5.at_ 4 rfl
    have fr := hr5.free
    have ff := HK5.out.free
    have nf : ∀ W, Sem.run Tryz.prog (binOp BinOp.neq 22 (.func (Fn.func 181) #[] #[]) .nilFunc) W = .ok (.bool true) W := fun _ => by kernel_rfl
    rw [nf]
    simp only [Result.andThen]
    rw [Oper.upon_value]
    go_wp2_with fail
    refine (HEND.out wc).mono ?_
    rintro e w5 ⟨rfl, hb5⟩
    have HRy := hid (HR5.out.mod (Mod.below' (S := fun _ => False) hb5) (fun x => x))
    have HB5 := hid hb5
    clear hb5 r0 r1 r2 r3 r4 fr hr5 q2 ff
    have hry := HRy.out
    have r0 := hry.at_ 0 rfl
    have r1 := hry.at_ 1 rfl
    have r2 := hry.at_ 2 rfl
    have r3 := hry.at_ 3 rfl
    have r4 := hry.at_ 4 rfl
    have fr := hry.free
    cases b
    all_goals
      go_wp2_with fail
      have hln := hid (line_zero HRy.out)
      have hmy : Hid (Mod (fun k => k = w.heap.size + 1) w5 _) := hid ((((((Mod.refl (fun k => k = w.heap.size + 1) w5).setCell (p := ⟨w.heap.size + 1, 0, none⟩) (.inl rfl) (.int .i64 0)).setCell (p := ⟨w.heap.size + 1, 1, none⟩) (.inl rfl) (.int .i64 0)).setCell (p := ⟨w.heap.size + 1, 2, none⟩) (.inl rfl) (.int .i64 0)).setCell (p := ⟨w.heap.size + 1, 3, none⟩) (.inl rfl) (.string ⟨#[]⟩)).setCell (p := ⟨w.heap.size + 1, 4, none⟩) (.inl rfl) (.int .u8 0))
      generalize World.setCell _ ⟨w.heap.size + 1, 4, none⟩ _ = wy at hln hmy ⊢
      have hl4 := hln.out
      have k0 := hl4.at_ 0 rfl
      have k1 := hl4.at_ 1 rfl
      have k2 := hl4.at_ 2 rfl
      have k3 := hl4.at_ 3 rfl
      have k4 := hl4.at_ 4 rfl
      clear hl4
      refine bodyPost_ret (by simp [results, Tryz.results342, go_sem, k0, k1, k2, k3, k4]; try rfl) rfl ?_
      exact ⟨rfl, FIN.out wy ((Mod.below HB5.out (fun q _ h => .inr h)).trans hmy.out (fun q hq e => .inl e))⟩
  | str q =>
    obtain ⟨ex, rfl, hqb, hBe, hre⟩ := HEF.out
    obtain rfl : eb = false := HEB.out
    obtain ⟨he1, he2, he3⟩ := HEND.out
    have HQ := hid hqb
    have hexw := hqb.lt
    clear hqb
    go_wp2_with fail
    have HP := hid (HPRE.out (World.alloc (World.alloc w (.cells #[.int .i64 0, .int .i64 0, .int .i64 0, .string ⟨l.toArray⟩, .int .u8 nl] 104)) (.cells #[.int .i64 0, .int .i64 0, .int .i64 0, .string ⟨#[]⟩, .int .u8 0] 104)) 0 rfl)
    generalize World.alloc _ _ = wa at HP ⊢
    refine (string_any w.heap.size 0 0 nl ⟨l.toArray⟩ wa HP.out.1 (by omega) (Nat.zero_le _)).mono ?_
    rintro e w2 ⟨rfl, n2, rfl⟩
    rw [HX.out]
    have HLb : Hid (Blk (wa.drewN n2) (w.heap.size + 1) 104 #[.int .i64 0, .int .i64 0, .int .i64 0, .string ⟨#[]⟩, .int .u8 0]) := hid (HP.out.2.1.drewN n2)
    have HBb : Hid (Below w.heap.size w (wa.drewN n2)) := hid (below_drewN HP.out.2.2.1 n2)
    have hzb : w.heap.size + 2 ≤ (wa.drewN n2).heap.size := by simpa using HP.out.2.2.2
    clear HP
    generalize World.drewN wa n2 = wb at HLb HBb hzb ⊢
    have HKb := hid (HBLK.out.mod (Mod.below' (S := fun _ => False) HBb.out) (fun x => x))
    have HRb := hid (own_mod HROW.out (Mod.below' (S := fun _ => False) HBb.out) (fun _ _ x => x))
    have p1 : wb.cell? ⟨hb, 1, none⟩ = some (.slice va vn vc) := HKb.out.at_ 1 rfl
    have fp := HKb.out.free
    have hl2 : ¬ hb = w.heap.size + 1 := by omega
    have hl3 : ¬ w.heap.size + 1 = hb := by omega
    go_wp2_with (at_builtin; refine wpList_append_lies _ rfl (.tmp 22) (.tmp 24) 33 (by rfl) B 9 is0 _ 1 16 Tryz.underlying33 his hsz0 hsz1 hsz2 rfl (by decide) (.slice va vn vc) vn ls (by rfl) (World.ownsRow.alloc HRb.out _) ⟨wb.heap.size, 0, none⟩ 1 1 [.string ⟨l.toArray⟩] (by rfl) rfl (World.news_of_block (heap_alloc_new _ _)) (by intro v hv; simp at hv; subst hv; rfl) (by omega) (by unfold maxLen; omega) (by omega) (by simp; omega) (wb.heap.size + 1) (by simp) ?_
                 intro g2 cap2 w4 hown4 hgr4 hat4 hlt4
                 have hp4 : Blk w4 hb 284 #[.bool false, .slice va vn vc, (.func (Fn.func 179) #[] #[.pointer (some ⟨ex, 0, none⟩)])] := Blk.grown (Blk.alloc HKb.out _) hgr4 (own_ne HRb.out HKb.out (by decide))
                 have q1 : w4.cell? ⟨hb, 1, none⟩ = some (.slice va vn vc) := hp4.at_ 1 rfl
                 have fq := hp4.free
                 have q2 : (w4.setCell ⟨hb, 1, none⟩ (.slice (some ⟨g2, 0, none⟩) (vn + 1) cap2)).cell? ⟨hb, 2, none⟩ = some (.func (Fn.func 179) #[] #[.pointer (some ⟨ex, 0, none⟩)]) := (Blk.set_ hp4 1 _).at_ 2 rfl
                 have hr4 : Blk w4 (w.heap.size + 1) 104 #[.int .i64 0, .int .i64 0, .int .i64 0, .string ⟨#[]⟩, .int .u8 0] := Blk.grown (Blk.alloc HLb.out _) hgr4 (own_ne HRb.out HLb.out (by decide))
                 have r0 := hr4.at_ 0 rfl
                 have r1 := hr4.at_ 1 rfl
                 have r2 := hr4.at_ 2 rfl
                 have r3 := hr4.at_ 3 rfl
                 have r4 := hr4.at_ 4 rfl
                 have fr := hr4.free)
    have hK5 := Blk.set_ hp4 1 (.slice (some ⟨g2, 0, none⟩) (vn + 1) cap2)
    have hO5 := own_far hown4 (p := ⟨hb, 1, none⟩) (own_ne hown4 hp4 (by decide)) (.slice (some ⟨g2, 0, none⟩) (vn + 1) cap2)
    have hR5 := hr4.far (p := ⟨hb, 1, none⟩) (Blk.ne_ hr4 hp4 (by decide)) (.slice (some ⟨g2, 0, none⟩) (vn + 1) cap2)
    have hM4 : Mod (fun j => j = hb ∨ some j = (Value.slice va vn vc).ownBlock) w w4 := Mod.grown ((Mod.below' HBb.out).alloc _) hgr4 (fun q hq => .inl (.inr hq.symm))
    have hM5 := hM4.setCell (p := ⟨hb, 1, none⟩) (.inl (.inl rfl)) (.slice (some ⟨g2, 0, none⟩) (vn + 1) cap2)
    have hz4 : w.heap.size + 2 ≤ w4.heap.size := by have h1 := hgr4.size; simp at h1; omega
    have hz5 : (w4.setCell ⟨hb, 1, none⟩ (.slice (some ⟨g2, 0, none⟩) (vn + 1) cap2)).heap.size = w4.heap.size := by simp [World.setCell]
    have hg2 : ∀ x, x < w.heap.size → (Value.slice va vn vc).ownBlock ≠ some x → some g2 ≠ some x := fun x hx hne e => by
      simp only [Option.some.injEq] at e
      subst e
      rcases hat4 with h | h
      · exact hne h
      · omega
    have HK5 := hid hK5
    have HO5 := hid hO5
    have HR5 := hid hR5
    have HM5 := hid hM5
    have HG2 := hid hg2
    clear hK5 hO5 hR5 hM4 hM5 hg2 hown4 hgr4 hat4 hlt4 hp4 q1 fq r0 r1 r2 r3 r4 fr hr4 p1 fp HKb HRb HLb
    generalize World.setCell w4 ⟨hb, 1, none⟩ _ = wc at HK5 HO5 HR5 HM5 q2 hz5 ⊢
    have HNE : Hid (¬ (ex = hb ∨ some ex = (Value.slice va vn vc).ownBlock)) := hid (fun e => by
      rcases e with e | e
      · exact Blk.ne_ HQ.out HBLK.out (by decide) e
      · exact hre e.symm)
    have hqc : wc.cell? ⟨ex, 0, none⟩ = some (.string ⟨q.toArray⟩) := (HQ.out.mod HM5.out HNE.out).at_ 0 rfl
    have FIN : Hid (∀ wy, Mod (fun j => j = w.heap.size + 1 ∨ wc.heap.size ≤ j) wc wy → HtmExtP B hb false ⟨va, vn, vc⟩ ls (.func (Fn.func 179) #[] #[.pointer (some ⟨ex, 0, none⟩)]) (.str q) l w wy) := hid (fun wy hm => ⟨⟨some ⟨g2, 0, none⟩, vn + 1, cap2⟩, rfl, ⟨by simpa using HK5.out.mod hm (by have := HM5.out.size; omega), own_mod HO5.out hm (fun q hq e => by
      rcases e with e | e
      · subst e; exact own_ne HO5.out HR5.out (by decide) hq.symm
      · have := ownLt HO5.out hq.symm; omega), hBh, ⟨ex, rfl, (HQ.out.mod HM5.out HNE.out).mod hm (by have := HM5.out.size; omega), hBe, HG2.out ex hexw hre⟩⟩, HM5.out.trans hm (fun q hq e => by omega)⟩)
    have hr5 := HR5.out
    have r0 := hr5.at_ 0 rfl
    have r1 := hr5.at_ 1 rfl
    have r2 := hr5.at_ 2 rfl
    have r3 := hr5.at_ 3 rfl
    have r4 := hr5.at_ 4 rfl
    have fr := hr5.free
    have ff := HK5.out.free
    have nf : ∀ W, Sem.run Tryz.prog (binOp BinOp.neq 22 (.func (Fn.func 179) #[] #[.pointer (some ⟨ex, 0, none⟩)]) .nilFunc) W = .ok (.bool true) W := fun _ => by kernel_rfl
    rw [nf]
    simp only [Result.andThen]
    rw [Oper.upon_value]
    go_wp2_with fail
    refine (htmlEnd_str l q ex wc (by omega) he2 he3 hqc).mono ?_
    rintro e w5 ⟨rfl, rfl⟩
    rw [he1]
    clear he1
    have HRy := HR5
    cases b
    all_goals
      go_wp2_with fail
      have hln := hid (line_zero HRy.out)
      have hmy : Hid (Mod (fun k => k = w.heap.size + 1) wc _) := hid ((((((Mod.refl (fun k => k = w.heap.size + 1) wc).setCell (p := ⟨w.heap.size + 1, 0, none⟩) (.inl rfl) (.int .i64 0)).setCell (p := ⟨w.heap.size + 1, 1, none⟩) (.inl rfl) (.int .i64 0)).setCell (p := ⟨w.heap.size + 1, 2, none⟩) (.inl rfl) (.int .i64 0)).setCell (p := ⟨w.heap.size + 1, 3, none⟩) (.inl rfl) (.string ⟨#[]⟩)).setCell (p := ⟨w.heap.size + 1, 4, none⟩) (.inl rfl) (.int .u8 0))
      generalize World.setCell _ ⟨w.heap.size + 1, 4, none⟩ _ = wy at hln hmy ⊢
      have hl4 := hln.out
      have k0 := hl4.at_ 0 rfl
      have k1 := hl4.at_ 1 rfl
      have k2 := hl4.at_ 2 rfl
      have k3 := hl4.at_ 3 rfl
      have k4 := hl4.at_ 4 rfl
      clear hl4
      refine bodyPost_ret (by simp [results, Tryz.results342, go_sem, k0, k1, k2, k3, k4]; try rfl) rfl ?_
      exact ⟨rfl, FIN.out wy (hmy.out.mono (fun q hq e => .inl e))⟩
end Go.Proofs.YtmmijmhdbpldpaaGreatDoor
