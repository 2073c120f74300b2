/- Texts of this proof, joined: The HTML of a paragraph of some lines, a block of HTML behind it or not, The names of HTML's blocks, The openings that are tags: what is known of them. -/
import Derived.Test.YtmmijmhdbpldpaaGreatDoorCInt14
import Derived.Test.YtmmijmhdbpldpaaGreatDoorCInt08
import Derived.Great.BuildSlice
import Derived.Test.YtmmijmhdbpldpaaGreatDoorCInt09
import Derived.ScopeJumps
/- The HTML of a paragraph of some lines, a block of HTML behind it or not. -/

namespace Go.Proofs.YtmmijmhdbpldpaaGreatDoor
open Go.RowKit
variable {o : Opt} {p0 : List UInt8} {P : List (List UInt8)} {R : Option (List UInt8 × List UInt8 × EndK × Bool)}
theorem hpH (pb g : Nat) (w0 : World) (out : List UInt8) (hD : DocL o p0 P R) (hpb : pb < g) (hlen : (joinL (p0 :: (P ++ restL R))).length ≤ 10000) (hi : InlC o (joinL (p0 :: P)) out) : ParseH2 pb g 1 (HInv pb g w0 o p0 P R) (HFin pb g w0 o p0 P R out) (joinL (p0 :: (P ++ restL R))).length where
  line := hp_line pb g w0 hD hpb hlen
  drew := by
    rintro l n w k ⟨hb, hpar, a, h⟩
    have hm : Mod (fun _ => False) w (w.drewN k) := (Mod.refl _ w).drewN k
    have fx : ∀ {r : PSr} {v1 : Sl} {kb tb : Nat} {txt : List UInt8}, HtmX (g + 1) g r v1 kb tb txt w → HtmX (g + 1) g r v1 kb tb txt (w.drewN k) := fun h => h.mod hm (fun _ _ _ _ _ x => x)
    have fh : ∀ {hb : Nat} {eb : Bool} {v : Sl} {ls : List Value} {fn : Value} {q : EndK}, IsHtm w (g + 1) hb eb v ls fn q → IsHtm (w.drewN k) (g + 1) hb eb v ls fn q := fun h => h.mod hm (fun x => x) (fun _ _ x => x) (fun _ _ _ x => x)
    refine ⟨below_drewN hb k, hpar.drewN k, a, ?_⟩
    rcases h with ⟨st, h1, h2, hps, hst⟩ | ⟨don, rest, st, v, qb, y, el, h1, h2, h3, hps, hst, ⟨q1, q2, q3⟩, hv⟩ | ⟨op, cl, q, b, hR, st, tx, v1, v, fn, hb', kb, tb, y, sl, z, h1, h2, hps, hst, hh, hx, h3⟩ | ⟨op, cl, q, b, hR, hl, st, tx, y, h1, h2, h⟩
    · exact .inl ⟨st, h1, h2, hps.drewN k, hst.drewN k⟩
    · exact .inr (.inl ⟨don, rest, st, v, qb, y, el, h1, h2, h3, hps.drewN k, hst.drewN k, ⟨q1.drewN k, World.ownsRow.drewN q2 k, q3⟩, hv⟩)
    · exact .inr (.inr (.inl ⟨op, cl, q, b, hR, st, tx, v1, v, fn, hb', kb, tb, y, sl, z, h1, h2, hps.drewN k, hst.drewN k, fh hh, fx hx, h3⟩))
    · refine .inr (.inr (.inr ⟨op, cl, q, b, hR, hl, st, tx, y, h1, h2, ?_⟩))
      rcases h with ⟨hbt, v1, v, kb, tb, hk, sl, z, hps, hst, hv1, hrow, ⟨p1, p2, p3, p4, c1, c2⟩, hrt, hgt, hhb, hhr, hvn⟩ | ⟨hbf, v1, v, fn, hbk, kb, tb, sl, z, hps, hst, hh, hx, hv⟩
      · exact .inl ⟨hbt, v1, v, kb, tb, hk, sl, z, hps.drewN k, hst.drewN k, hv1, World.ownsRow.drewN hrow k, ⟨p1, p2, p3, p4, c1.drewN k, c2.drewN k⟩, World.ownsRow.drewN hrt k, hgt, hhb.drewN k, World.ownsRow.drewN hhr k, hvn⟩
      · exact .inr ⟨hbf, v1, v, fn, hbk, kb, tb, sl, z, hps.drewN k, hst.drewN k, fh hh, fx hx, hv⟩
  trim := hp_trim pb g w0 out hD hpb
  at_ := by
    intro ta k w ⟨hb, hpar, r, d, kb, tb, ab, v1, tc, y, ys, hps, hrp, hroot, hta, htx, _⟩
    exact ⟨by omega, r, tc, hps, htx, parser_no2 o hpar hD.tasks⟩
  text := by
    intro ta k w ⟨hb, hpar, r, d, kb, tb, ab, v1, tc, y, ys, hps, hrp, hroot, hta, htx, hrt, hdoc, hv1, hrow, hkid, hgt, hk⟩ hk1
    rcases hk with ⟨rfl, hbk, sl, el, sl2, el2, hkp, hkt⟩ | ⟨rfl, _⟩
    · subst hta
      have hrt2 := hrt
      rw [htx] at hrt2
      obtain ⟨ab', cs, hab, hblk, _, _, _, hcl, _⟩ := row_blk hrt2 (Nat.succ_pos 0)
      simp only [Option.some.injEq, Addr.mk.injEq] at hab
      obtain ⟨rfl, _⟩ := hab
      have hgl := hps.lt
      have hrg : r.parser ≠ g := by rw [hrp]; omega
      refine ⟨ab, 0, tb, ⟨(joinL (p0 :: P)).toArray⟩, rfl, hblk.at_ 0 (hcl 0 (by omega)), hkt.at_ 3 rfl, (hi g r w hps (by rw [hrp]; exact hpar) hrg hbk).mono ?_⟩
      rintro e w' ⟨l, vs, outs, c, em, s2, bk, rfl, hps', hrl, hn, hits, hout, hm⟩
      have hkt' := hkt.mod hm (by omega)
      refine ⟨l.a, l.n, l.c, rfl, ⟨_, hkt'.at_ 2 rfl⟩, hkt'.free 2, ?_⟩
      have htg : tb ≠ g := by omega
      have hm2 : Mod (fun k => k = tb) w' (w'.setCell ⟨tb, 2, none⟩ (.slice l.a l.n l.c)) := (Mod.refl (fun k => k = tb) w').setCell (p := ⟨tb, 2, none⟩) (.inl rfl) _
      have hm3 := (hm.mono (S' := fun k => k = g ∨ k = tb) (fun _ _ h => .inl h)).trans hm2 (fun _ _ h => .inr h)
      have hg1 : g + 1 ≤ w.heap.size := hgl
      have hS : ∀ q ty cs, Blk w q ty cs → ty ≠ 95 → ty ≠ 110 → ¬ (q = g ∨ q = tb) := fun q ty cs hq t1 t2 e => by
        rcases e with e | e
        · exact Blk.ne_ hq hps t1 e
        · exact Blk.ne_ hq hkt t2 e
      refine ⟨hb.trans (hm3.toBelow (B := g) (Nat.le_of_lt hgl) (fun k hk e => by omega)), hpar.mod hm3 (by omega), _, d, kb, tb, ab, v1, tc, y, ys, hps'.far (p := ⟨tb, 2, none⟩) (fun e => htg e.symm) _, hrp, hroot, rfl, htx, ?_, hdoc.mod hm3 (hS _ _ _ hdoc (by decide) (by decide)), hv1, ?_, hkid.mod hm3 (fun q ty cs hq ht => hS _ _ _ hq (by rcases ht with rfl | rfl <;> decide) (by rcases ht with rfl | rfl <;> decide)), hgt, .inr ⟨rfl, sl, el, sl2, el2, .string ⟨(joinL (p0 :: P)).toArray⟩, l, vs, outs, hkp.mod hm3 (hS _ _ _ hkp (by decide) (by decide)), hkt'.set_ 2 _, ?_, hn, ?_, hout⟩⟩
      · exact own_mod hrt hm3 (fun q hq e => by
          rcases e with e | e
          · exact own_ne hrt hps (by decide) (by rw [hq, e])
          · exact own_ne hrt hkt (by decide) (by rw [hq, e]))
      · exact own_mod hrow hm3 (fun q hq e => by
          rcases e with e | e
          · exact own_ne hrow hps (by decide) (by rw [hq, e])
          · exact own_ne hrow hkt (by decide) (by rw [hq, e]))
      · exact own_base (own_far hrl (p := ⟨tb, 2, none⟩) (own_ne hrl hkt' (by decide)) _) hg1
      · exact (hits.mod hm2 (fun k ty cs hbk _ _ ht e => by subst e; exact Blk.ne_ hbk hkt' ht rfl)).base hg1
    · omega
/-- What the document prints. -/
def docO (R : Option (List UInt8 × List UInt8 × EndK × Bool)) (out : List UInt8) : List UInt8 := paraOut out ++ match R with
  | none => []
  | some (op, cl, _, _) => htmOut [op, cl]
set_option maxRecDepth 20000 in
theorem HTML_hp (o : Opt) (p0 : List UInt8) (P : List (List UInt8)) (R : Option (List UInt8 × List UInt8 × EndK × Bool)) (out : List UInt8) (w : World) (hD : DocL o p0 P R) (hlen : (joinL (p0 :: (P ++ restL R))).length ≤ 10000) (hi : InlC o (joinL (p0 :: P)) out) (hol : out.length ≤ 800000) (s : ByteArray) (hs : s = ⟨(joinL (p0 :: (P ++ restL R))).toArray⟩) :
    Calls Tryz.prog 11 #[o.v, .string s] w fun e w' => e = .returned (.string ⟨(docO R out).toArray⟩) ∧ Below w.heap.size w w' := by
  subst hs
  refine HTML_gen2 o _ w (docO R out) (fun pb w1 hbw hblkp => ?_)
  have hpb : pb < w1.heap.size := hblkp.lt
  have hpo := paraOut_len out
  have h0 : (0 : UInt8) ∉ joinL (p0 :: (P ++ restL R)) := by
    intro hm
    rcases joinL_mem hm with e | ⟨l, hl, hc⟩
    · cases e
    · rcases List.mem_cons.1 hl with rfl | hl
      · exact (hD.plain _ (List.mem_cons_self ..)).2.2.1 hc
      rcases List.mem_append.1 hl with hl | hl
      · exact (hD.plain _ (List.mem_cons_of_mem _ hl)).2.2.1 hc
      · cases hR : R with
        | none => rw [hR] at hl; cases hl
        | some x =>
          obtain ⟨op, cl, k, b⟩ := x
          have := hD.html op cl k b hR
          rw [hR] at hl
          simp only [restL, List.mem_cons, List.not_mem_nil, or_false] at hl
          rcases hl with rfl | rfl
          · exact this.2.2.2.2.1.2.2 hc
          · exact this.2.2.2.2.2.1.2.2 hc
  have hpar : Calls Tryz.prog 43 #[.pointer (some ⟨pb, 0, none⟩), .string ⟨(joinL (p0 :: (P ++ restL R))).toArray⟩] w1 fun e w' => ∃ d c, e = .returned (.tuple #[.pointer (some ⟨d, 0, none⟩), .bool c]) ∧ DocPrints w' d (docO R out) ∧ Below w1.heap.size w1 w' := by
    refine (parse_gen2 pb _ w1 1 (HInv pb w1.heap.size w1 o p0 P R) (HFin pb w1.heap.size w1 o p0 P R out) (by omega) (idxB_not _ 0 h0) (hpH pb w1.heap.size w1 out hD hpb hlen hi) ?_).mono ?_
    · intro w' bn hps hb
      refine (addBlock_top (w1.heap.size + 1) w1.heap.size (ps0 pb) [] w' 98 (.pointer (some ⟨bn, 0, none⟩)) hps.lt hps ⟨rfl, World.ownsRow_nil _ _ _ _⟩ rfl (by simp)).mono ?_
      rintro e w2 ⟨rfl, v, hps1, hst, _, hm⟩
      refine ⟨rfl, ?_, ?_, some ⟨bn, 0, none⟩, .inl ⟨v, rfl, rfl, hps1, hst⟩⟩
      · exact hb.trans (hm.toBelow (B := w1.heap.size) hb.size (fun k hk e => by
          rcases e with e | e
          · omega
          · simp [ps0, Sl.nil, Value.ownBlock] at e))
      · refine (hblkp.mod (S := fun _ => False) (Mod.below' hb) (fun x => x)).mod hm (fun e => ?_)
        rcases e with e | e
        · omega
        · simp [ps0, Sl.nil, Value.ownBlock] at e
    · rintro e w' ⟨ta, r, k, rfl, hps, w0, ⟨hb, _, r0, d, kb, tb, ab, v1, tc, y, ys, hps0, _, hroot, _, _, _, hdoc, hv1, hrow, hkid, _, hk⟩, rfl⟩
      have h1 := hps.c1
      have h2 := hps0.c1
      rw [show (w0.drewN k).cell? ⟨w1.heap.size, 1, none⟩ = w0.cell? ⟨w1.heap.size, 1, none⟩ from rfl, h2, hroot] at h1
      simp only [Option.some.injEq, Value.pointer.injEq] at h1
      rw [← h1]
      rcases hk with ⟨h, _⟩ | ⟨_, hpar⟩
      · omega
      · have hkid' : HKid (w1.heap.size + 1) (w0.drewN k) kb (kidL R) ys := hkid.mod ((Mod.refl (fun _ => False) w0).drewN k) (fun _ _ _ _ _ x => x)
        cases hR : R with
        | none =>
          rw [hR] at hkid'
          obtain rfl : ys = [parV kb] := hkid'
          refine ⟨d, _, rfl, ⟨0, y, v1, none, w1.heap.size + 1, [parV kb], [paraOut out], hdoc, World.ownsRow.drewN hrow k, by omega, by simp [docO], by simp [docO]; omega, rfl, ?_⟩, below_drewN hb k⟩
          intro b i y' x hbz hy hx
          cases i with
          | zero =>
            simp at hy hx
            subst hy hx
            exact par_prints _ (w1.heap.size + 1) b kb tb _ out hbz (hpar.drewN k)
          | succ i => simp at hy
        | some x =>
          obtain ⟨op, cl, q, b⟩ := x
          obtain ⟨_, _, _, _, _, _, hol1, hcl1, _⟩ := hD.html op cl q b hR
          rw [hR] at hkid'
          obtain ⟨hk, sl, z, v, rfl, h2', h3', h4'⟩ := hkid'
          have hhl : (htmOut [op, cl]).length ≤ 300 := by simp [htmOut]; omega
          have hdO : docO (some (op, cl, q, b)) out = paraOut out ++ htmOut [op, cl] := rfl
          rw [hdO]
          refine ⟨d, _, rfl, ⟨0, y, v1, none, w1.heap.size + 1, [parV kb, htmV hk], [paraOut out, htmOut [op, cl]], hdoc, World.ownsRow.drewN hrow k, by omega, by simp, by rw [List.length_append]; omega, rfl, ?_⟩, below_drewN hb k⟩
          intro b' i y' x hbz hy hx
          match i with
          | 0 =>
            simp at hy hx
            subst hy hx
            exact par_prints _ (w1.heap.size + 1) b' kb tb _ out hbz (hpar.drewN k)
          | 1 =>
            simp at hy hx
            subst hy hx
            exact htm_prints _ b' hk (w1.heap.size + 1) _ sl z v [op, cl] hbz h2' h3' h4' (by simp) (by simp; omega) (fun l hl => by
              simp only [List.mem_cons, List.not_mem_nil, or_false] at hl
              rcases hl with rfl | rfl <;> omega) (by simp)
          | i + 2 => simp at hy
  go_enter Tryz.func29, Tryz.ntmps29
  go_wp2_with (go_at_call 43; refine hpar.mono ?_; rintro e w1 ⟨d, c, rfl, hd, hb⟩)
  all_goals go_ret
  all_goals exact ⟨d, rfl, hd, hb⟩
end Go.Proofs.YtmmijmhdbpldpaaGreatDoor
/- The names of HTML's blocks. -/


namespace Go.Proofs.YtmmijmhdbpldpaaGreatDoor
open Go.RowKit
def tagsB : List (List UInt8) := [[97, 100, 100, 114, 101, 115, 115], [97, 114, 116, 105, 99, 108, 101], [97, 115, 105, 100, 101], [98, 97, 115, 101], [98, 97, 115, 101, 102, 111, 110, 116], [98, 108, 111, 99, 107, 113, 117, 111, 116, 101], [98, 111, 100, 121], [99, 97, 112, 116, 105, 111, 110], [99, 101, 110, 116, 101, 114], [99, 111, 108], [99, 111, 108, 103, 114, 111, 117, 112], [100, 100], [100, 101, 116, 97, 105, 108, 115], [100, 105, 97, 108, 111, 103], [100, 105, 114], [100, 105, 118], [100, 108], [100, 116], [102, 105, 101, 108, 100, 115, 101, 116], [102, 105, 103, 99, 97, 112, 116, 105, 111, 110], [102, 105, 103, 117, 114, 101], [102, 111, 111, 116, 101, 114], [102, 111, 114, 109], [102, 114, 97, 109, 101], [102, 114, 97, 109, 101, 115, 101, 116], [104, 49], [104, 50], [104, 51], [104, 52], [104, 53], [104, 54], [104, 101, 97, 100], [104, 101, 97, 100, 101, 114], [104, 114], [104, 116, 109, 108], [105, 102, 114, 97, 109, 101], [108, 101, 103, 101, 110, 100], [108, 105], [108, 105, 110, 107], [109, 97, 105, 110], [109, 101, 110, 117], [109, 101, 110, 117, 105, 116, 101, 109], [110, 97, 118], [110, 111, 102, 114, 97, 109, 101, 115], [111, 108], [111, 112, 116, 103, 114, 111, 117, 112], [111, 112, 116, 105, 111, 110], [112], [112, 97, 114, 97, 109], [115, 101, 99, 116, 105, 111, 110], [115, 111, 117, 114, 99, 101], [115, 117, 109, 109, 97, 114, 121], [116, 97, 98, 108, 101], [116, 98, 111, 100, 121], [116, 100], [116, 102, 111, 111, 116], [116, 104], [116, 104, 101, 97, 100], [116, 105, 116, 108, 101], [116, 114], [116, 114, 97, 99, 107], [117, 108]]
def tagsL : List Value := [.string ⟨#[97, 100, 100, 114, 101, 115, 115]⟩, .string ⟨#[97, 114, 116, 105, 99, 108, 101]⟩, .string ⟨#[97, 115, 105, 100, 101]⟩, .string ⟨#[98, 97, 115, 101]⟩, .string ⟨#[98, 97, 115, 101, 102, 111, 110, 116]⟩, .string ⟨#[98, 108, 111, 99, 107, 113, 117, 111, 116, 101]⟩, .string ⟨#[98, 111, 100, 121]⟩, .string ⟨#[99, 97, 112, 116, 105, 111, 110]⟩, .string ⟨#[99, 101, 110, 116, 101, 114]⟩, .string ⟨#[99, 111, 108]⟩, .string ⟨#[99, 111, 108, 103, 114, 111, 117, 112]⟩, .string ⟨#[100, 100]⟩, .string ⟨#[100, 101, 116, 97, 105, 108, 115]⟩, .string ⟨#[100, 105, 97, 108, 111, 103]⟩, .string ⟨#[100, 105, 114]⟩, .string ⟨#[100, 105, 118]⟩, .string ⟨#[100, 108]⟩, .string ⟨#[100, 116]⟩, .string ⟨#[102, 105, 101, 108, 100, 115, 101, 116]⟩, .string ⟨#[102, 105, 103, 99, 97, 112, 116, 105, 111, 110]⟩, .string ⟨#[102, 105, 103, 117, 114, 101]⟩, .string ⟨#[102, 111, 111, 116, 101, 114]⟩, .string ⟨#[102, 111, 114, 109]⟩, .string ⟨#[102, 114, 97, 109, 101]⟩, .string ⟨#[102, 114, 97, 109, 101, 115, 101, 116]⟩, .string ⟨#[104, 49]⟩, .string ⟨#[104, 50]⟩, .string ⟨#[104, 51]⟩, .string ⟨#[104, 52]⟩, .string ⟨#[104, 53]⟩, .string ⟨#[104, 54]⟩, .string ⟨#[104, 101, 97, 100]⟩, .string ⟨#[104, 101, 97, 100, 101, 114]⟩, .string ⟨#[104, 114]⟩, .string ⟨#[104, 116, 109, 108]⟩, .string ⟨#[105, 102, 114, 97, 109, 101]⟩, .string ⟨#[108, 101, 103, 101, 110, 100]⟩, .string ⟨#[108, 105]⟩, .string ⟨#[108, 105, 110, 107]⟩, .string ⟨#[109, 97, 105, 110]⟩, .string ⟨#[109, 101, 110, 117]⟩, .string ⟨#[109, 101, 110, 117, 105, 116, 101, 109]⟩, .string ⟨#[110, 97, 118]⟩, .string ⟨#[110, 111, 102, 114, 97, 109, 101, 115]⟩, .string ⟨#[111, 108]⟩, .string ⟨#[111, 112, 116, 103, 114, 111, 117, 112]⟩, .string ⟨#[111, 112, 116, 105, 111, 110]⟩, .string ⟨#[112]⟩, .string ⟨#[112, 97, 114, 97, 109]⟩, .string ⟨#[115, 101, 99, 116, 105, 111, 110]⟩, .string ⟨#[115, 111, 117, 114, 99, 101]⟩, .string ⟨#[115, 117, 109, 109, 97, 114, 121]⟩, .string ⟨#[116, 97, 98, 108, 101]⟩, .string ⟨#[116, 98, 111, 100, 121]⟩, .string ⟨#[116, 100]⟩, .string ⟨#[116, 102, 111, 111, 116]⟩, .string ⟨#[116, 104]⟩, .string ⟨#[116, 104, 101, 97, 100]⟩, .string ⟨#[116, 105, 116, 108, 101]⟩, .string ⟨#[116, 114]⟩, .string ⟨#[116, 114, 97, 99, 107]⟩, .string ⟨#[117, 108]⟩]
theorem tagsL_eq : tagsL = tagsB.map lineV := rfl
theorem tags_len : tagsB.length = 62 := rfl
theorem tags_pos : ∀ l ∈ tagsB, 0 < l.length ∧ l.length ≤ 20 := by unfold tagsB; decide
theorem tags_script : [115, 99, 114, 105, 112, 116] ∉ tagsB := by unfold tagsB; decide
theorem tags_pre : [112, 114, 101] ∉ tagsB := by unfold tagsB; decide
theorem tags_div : tagsB[15]? = some [100, 105, 118] := rfl
theorem tags_div2 : ∀ i (h : i < 15), tagsB[i]'(by rw [tags_len]; omega) ≠ [100, 105, 118] := by unfold tagsB; decide
set_option maxRecDepth 100000 in
set_option maxHeartbeats 4000000 in
theorem htmlTags_any (w : World) : Calls Tryz.prog 180 #[] w fun e w' => ∃ n, e = .returned (.slice (some ⟨n, 0, none⟩) 62 62) ∧ w.heap.size ≤ n ∧ Blk w' n 9 tagsL.toArray ∧ Below w.heap.size w w' := by
  obtain ⟨ie, hie, hz, hs1, hs2⟩ := info_parts infoStrP
  go_enter Tryz.func180, Tryz.ntmps180
  go_wp2_with (refine wpList_buildSlice rfl 33 9 62 _ rfl tagsL.toArray ie (.string ⟨#[]⟩) Tryz.underlying33 hie hz (by rw [hs1]; decide) (by rw [hs1]; decide) (by rw [hs1]; kernel_rfl) ?_)
  go_ret
  exact ⟨_, rfl, Nat.le_refl _, Blk.new _ _ _, (Below.refl _ _).alloc (Nat.le_refl _) _⟩
end Go.Proofs.YtmmijmhdbpldpaaGreatDoor
/- The openings that are tags: what is known of them. -/



namespace Go.Proofs.YtmmijmhdbpldpaaGreatDoor
open Go.RowKit
@[reducible] def shFrame (g pk gb n cap : Nat) (i : Int) (s : ByteArray) (U : Nat → Value) : Act := { tmps := #[.pointer (some ⟨g, 0, none⟩), .pointer (some ⟨pk, 0, none⟩), U 2, U 3, .bool false, U 5, .string s, U 7, U 8, .int .i64 i, .slice (some ⟨gb, 0, none⟩) n cap, U 11, U 12, U 13, U 14, U 15, U 16, U 17, U 18, U 19, U 20, U 21, U 22, U 23, U 24, U 25, U 26, U 27, U 28, U 29, U 30, U 31, U 32, U 33, U 34, U 35, U 36, U 37, U 38, U 39, U 40, U 41, U 42, U 43, U 44, U 45, U 46, U 47, U 48, U 49, U 50, U 51, U 52, U 53, U 54, U 55, U 56, U 57, U 58, U 59, U 60, U 61, U 62, U 63, U 64, U 65, U 66, U 67, U 68, U 69, U 70, U 71, U 72, U 73, U 74, U 75, U 76, U 77, U 78, U 79, U 80, U 81, U 82, U 83, U 84, U 85, U 86, U 87, U 88, U 89, U 90, U 91, U 92, U 93, U 94, U 95, U 96, U 97, U 98, U 99, U 100, U 101, U 102, U 103, U 104, U 105, U 106, U 107, U 108, U 109, U 110, U 111, U 112, U 113, U 114, U 115, U 116, U 117, U 118, U 119, U 120, U 121, U 122, U 123, U 124, U 125, U 126, U 127, U 128, U 129, U 130, U 131, U 132, U 133, U 134, U 135, U 136, U 137, U 138, U 139, U 140, U 141, U 142, U 143, U 144, U 145, U 146, U 147, U 148, U 149, U 150, U 151, U 152, U 153, U 154, U 155, U 156, U 157, U 158, U 159, U 160, U 161, U 162, U 163, U 164, U 165, U 166, U 167, U 168, U 169, U 170, U 171, U 172, U 173, U 174, U 175, U 176, U 177, U 178, U 179, U 180, U 181, U 182, U 183, U 184, U 185, U 186, U 187, U 188, U 189, U 190, U 191, U 192, U 193, U 194, U 195, U 196, U 197, U 198, U 199, U 200, U 201, U 202, U 203, U 204, U 205, U 206, U 207, U 208, U 209, U 210, U 211, U 212, U 213, U 214, U 215, U 216, U 217, U 218, U 219, U 220, U 221, U 222, U 223, U 224, U 225, U 226, U 227, U 228, U 229, U 230, U 231, U 232, U 233, U 234, U 235, U 236, U 237, U 238, U 239, U 240, U 241, U 242, U 243, U 244, U 245, U 246, U 247, U 248, U 249, U 250, U 251, U 252, U 253, U 254, U 255, U 256, U 257, U 258, U 259, U 260, U 261, U 262, U 263, U 264, U 265, U 266, U 267, U 268, U 269, U 270, U 271, U 272, U 273, U 274, U 275, U 276, U 277, U 278, U 279, U 280, U 281, U 282, U 283, U 284, U 285, U 286, U 287, U 288, U 289, U 290, U 291, U 292, U 293, U 294, U 295, U 296, U 297, U 298, U 299, U 300, U 301, U 302, U 303, U 304, U 305, U 306, U 307, U 308, U 309, U 310, U 311, U 312, U 313, U 314, U 315, U 316, U 317, U 318, U 319, U 320, U 321, U 322, U 323, U 324, U 325, U 326, U 327, U 328, U 329, U 330, U 331, U 332, U 333, U 334, U 335, U 336, U 337, U 338, U 339, U 340, U 341, U 342, U 343, U 344, U 345, U 346, U 347, U 348, U 349, U 350, U 351, U 352, U 353, U 354, U 355, U 356, U 357, U 358, U 359, U 360, U 361, U 362, U 363, U 364, U 365, U 366, U 367], defers := [] }
def shList (g pk gb n cap : Nat) (i : Int) (s : ByteArray) (U : Nat → Value) : List Value := [.pointer (some ⟨g, 0, none⟩), .pointer (some ⟨pk, 0, none⟩), U 2, U 3, .bool false, U 5, .string s, U 7, U 8, .int .i64 i, .slice (some ⟨gb, 0, none⟩) n cap, U 11, U 12, U 13, U 14, U 15, U 16, U 17, U 18, U 19, U 20, U 21, U 22, U 23, U 24, U 25, U 26, U 27, U 28, U 29, U 30, U 31, U 32, U 33, U 34, U 35, U 36, U 37, U 38, U 39, U 40, U 41, U 42, U 43, U 44, U 45, U 46, U 47, U 48, U 49, U 50, U 51, U 52, U 53, U 54, U 55, U 56, U 57, U 58, U 59, U 60, U 61, U 62, U 63, U 64, U 65, U 66, U 67, U 68, U 69, U 70, U 71, U 72, U 73, U 74, U 75, U 76, U 77, U 78, U 79, U 80, U 81, U 82, U 83, U 84, U 85, U 86, U 87, U 88, U 89, U 90, U 91, U 92, U 93, U 94, U 95, U 96, U 97, U 98, U 99, U 100, U 101, U 102, U 103, U 104, U 105, U 106, U 107, U 108, U 109, U 110, U 111, U 112, U 113, U 114, U 115, U 116, U 117, U 118, U 119, U 120, U 121, U 122, U 123, U 124, U 125, U 126, U 127, U 128, U 129, U 130, U 131, U 132, U 133, U 134, U 135, U 136, U 137, U 138, U 139, U 140, U 141, U 142, U 143, U 144, U 145, U 146, U 147, U 148, U 149, U 150, U 151, U 152, U 153, U 154, U 155, U 156, U 157, U 158, U 159, U 160, U 161, U 162, U 163, U 164, U 165, U 166, U 167, U 168, U 169, U 170, U 171, U 172, U 173, U 174, U 175, U 176, U 177, U 178, U 179, U 180, U 181, U 182, U 183, U 184, U 185, U 186, U 187, U 188, U 189, U 190, U 191, U 192, U 193, U 194, U 195, U 196, U 197, U 198, U 199, U 200, U 201, U 202, U 203, U 204, U 205, U 206, U 207, U 208, U 209, U 210, U 211, U 212, U 213, U 214, U 215, U 216, U 217, U 218, U 219, U 220, U 221, U 222, U 223, U 224, U 225, U 226, U 227, U 228, U 229, U 230, U 231, U 232, U 233, U 234, U 235, U 236, U 237, U 238, U 239, U 240, U 241, U 242, U 243, U 244, U 245, U 246, U 247, U 248, U 249, U 250, U 251, U 252, U 253, U 254, U 255, U 256, U 257, U 258, U 259, U 260, U 261, U 262, U 263, U 264, U 265, U 266, U 267, U 268, U 269, U 270, U 271, U 272, U 273, U 274, U 275, U 276, U 277, U 278, U 279, U 280, U 281, U 282, U 283, U 284, U 285, U 286, U 287, U 288, U 289, U 290, U 291, U 292, U 293, U 294, U 295, U 296, U 297, U 298, U 299, U 300, U 301, U 302, U 303, U 304, U 305, U 306, U 307, U 308, U 309, U 310, U 311, U 312, U 313, U 314, U 315, U 316, U 317, U 318, U 319, U 320, U 321, U 322, U 323, U 324, U 325, U 326, U 327, U 328, U 329, U 330, U 331, U 332, U 333, U 334, U 335, U 336, U 337, U 338, U 339, U 340, U 341, U 342, U 343, U 344, U 345, U 346, U 347, U 348, U 349, U 350, U 351, U 352, U 353, U 354, U 355, U 356, U 357, U 358, U 359, U 360, U 361, U 362, U 363, U 364, U 365, U 366, U 367]
def nthH : List Value → Nat → Value
  | [], _ => undef
  | a :: _, 0 => a
  | _ :: l, n + 1 => nthH l n
theorem shframe_eq {g pk gb n cap : Nat} {i : Int} {s : ByteArray} (L : List Value) (h : shList g pk gb n cap i s (nthH L) = L) : ({ tmps := L.toArray, defers := [] } : Act) = shFrame g pk gb n cap i s (nthH L) := by
  have : shFrame g pk gb n cap i s (nthH L) = { tmps := (shList g pk gb n cap i s (nthH L)).toArray, defers := [] } := rfl
  rw [this, h]
/-- A text that begins with an angle bracket and a name of small letters, a sign behind it. -/
structure TagAt (s : ByteArray) (lo : List UInt8) (z : Int) : Prop where
  size : s.size ≤ 100
  tab : ∀ k, bt s k ≠ 9
  b60 : bt s 0 = 60
  len : lo.length ≤ 10
  pos : 0 < lo.length
  chr : ∀ m, m < lo.length → ∃ c : UInt8, lo[m]? = some c ∧ 97 ≤ (c.toNat : Int) ∧ (c.toNat : Int) ≤ 122 ∧ bt s (1 + m) = c.toNat
  end_ : 1 + lo.length < s.size
  bz : bt s (1 + lo.length) = z
  p0 : ([60, 33, 45, 45] : List UInt8).isPrefixOf s.data.toList = false
  p1 : ([60, 63] : List UInt8).isPrefixOf s.data.toList = false
  p2 : ([60, 33, 91, 67, 68, 65, 84, 65, 91] : List UInt8).isPrefixOf s.data.toList = false
  p3 : ([60, 33] : List UInt8).isPrefixOf s.data.toList = false
def NameSt (lo : List UInt8) (w : World) (gb cap : Nat) (w' : World) : Prop := w'.ownsRow w.heap.size 5 1 (.slice (some ⟨gb, 0, none⟩) lo.length cap) lo.length (lo.map byteV3) ∧ Below w.heap.size w w'
def BufR (lo : List UInt8) (w : World) (t9 t10 : Value) (wr : World) : Prop :=
  ∃ m g cap : Nat, m ≤ lo.length ∧ t9 = .int .i64 ((1 + m : Nat) : Int) ∧ t10 = .slice (some ⟨g, 0, none⟩) m cap ∧ wr.ownsRow w.heap.size 5 1 (.slice (some ⟨g, 0, none⟩) m cap) m ((lo.map byteV3).take m) ∧ Below w.heap.size w wr
theorem tag_take2 {lo : List UInt8} {m : Nat} {c : UInt8} (h : lo[m]? = some c) : (lo.map byteV3).take (m + 1) = (lo.map byteV3).take m ++ [.int .u8 (c.toNat : Int)] := by
  rw [List.take_add_one, List.getElem?_map, h]
  rfl
end Go.Proofs.YtmmijmhdbpldpaaGreatDoor
/- A block of HTML begins: the openings of pre and script. -/

namespace Go.Proofs.YtmmijmhdbpldpaaGreatDoor
open Go.RowKit
set_option maxRecDepth 20000 in
set_option maxHeartbeats 8000000 in
theorem startHTML_pre (B base g pk : Nat) (S : Nat → World → Prop) (s : ByteArray) (lo : List UInt8) (z nl : Int) (w : World) (hB : B ≤ base) (hbase : base ≤ pk) (hln : IsLn w pk 0 0 s nl) (hT : TagAt s lo z) (hlo : (z = 32 ∧ lo = [112, 114, 101]) ∨ (z = 62 ∧ lo = [115, 99, 114, 105, 112, 116]))
    (hend : ∀ i, i < s.size → bt s i = 60 → bt s (i + 1) ≠ 47) (hadd : ∀ hb W, base ≤ hb → Below w.heap.size w W → Calls Tryz.prog 52 #[.pointer (some ⟨g, 0, none⟩), .iface 282 (.pointer (some ⟨hb, 0, none⟩))] W fun e w' => e = .returned (.tuple #[]) ∧ Mod (fun k => k < base) W w' ∧ S hb w') :
    Calls Tryz.prog 140 #[.pointer (some ⟨g, 0, none⟩), .pointer (some ⟨pk, 0, none⟩)] w fun e w' => e = .returned (.bool true) ∧ StartP B base S .pre s w w' := by
  obtain ⟨is0, his, hsz0, hsz1, hsz2⟩ := info_parts infoStrP
  obtain ⟨iu0, hiu, hu0, hu1, hu2⟩ := info_parts infoU8h
  have h0 := hln.c0
  have h1 := hln.c1
  have h2 := hln.c2
  have h3 := hln.c3
  have h4 := hln.c4
  have hb := get_bt s
  have e60 : (bt s 0 != 60) = false := by rw [hT.b60]; rfl
  have HX : Hid (s.extract 0 s.size = s) := hid (by rw [extract_end]; simp)
  have HT := hid hT
  have HLN := hid hln
  have hpl := Blk.lt hln
  have hs := hT.size
  have hn10 := hT.len
  have hend1 := hT.end_
  obtain ⟨c0, hc0, hc1, hc2, hc3⟩ := hT.chr 0 hT.pos
  have e47 : (bt s 1 == 47) = false := by
    have : bt s 1 = c0.toNat := hc3
    rw [this]; simp; omega
  have e47b : (bt s 1 != 47) = true := by simp [bne, e47]
  have HC0 := hid hc0
  clear hln hT hc0 hc1 hc2 hc3
  have HADD := hid hadd
  have HEND := hid (fun W => endPre_no s W (by omega) hend)
  have HNOT : Hid (∀ i, i < 62 → ∃ nm, tagsB[i]? = some nm ∧ nm ≠ lo) := hid (fun i hi => ⟨tagsB[i]'(by rw [tags_len]; exact hi), List.getElem?_eq_getElem _, fun e => by
    have h1 : lo ∈ tagsB := by rw [← e]; exact List.getElem_mem _
    rcases hlo with ⟨_, h⟩ | ⟨_, h⟩
    · rw [h] at h1; exact tags_pre h1
    · rw [h] at h1; exact tags_script h1⟩)
  have HZ : Hid ((z = 32 ∧ (lo == [112, 114, 101]) = true) ∨ (z = 62 ∧ (lo == [112, 114, 101]) = false ∧ (lo == [115, 99, 114, 105, 112, 116]) = true)) := hid (by
    rcases hlo with ⟨h1, h⟩ | ⟨h1, h⟩
    · rw [h]; exact .inl ⟨h1, rfl⟩
    · rw [h]; exact .inr ⟨h1, rfl, rfl⟩)
  clear hadd hend hlo
  go_enter Tryz.func140, Tryz.ntmps140
  go_wp2_with fail
  refine wp_scope_jumps 0 (fun a' w' => ∃ (gb cap : Nat) (U : Nat → Value), a' = shFrame g pk gb lo.length cap ((1 + lo.length : Nat) : Int) s U ∧ NameSt lo w gb cap w') (fun _ _ => 0) rfl ?_ ?_
  · skip
    go_wp2_with fail
    refine (trimSp_any _ 0 0 3 false 0 nl s _ (Blk.new' rfl) (by omega) (Nat.zero_le _) HT.out.tab (by omega) (by omega)).mono ?_
    rintro e w1 ⟨j, a1, a2, a3, a4, a5, a6, hm⟩
    have hj : j = 0 := by
      rcases Nat.eq_or_lt_of_le a1 with h | h
      · exact h.symm
      · exact absurd (a4 0 (Nat.le_refl _) h) (by rw [HT.out.b60]; decide)
    subst hj
    rcases a6 with ⟨rfl, _, hln1⟩ | ⟨_, hbad, _⟩
    case inr => omega
    have HB1 : Hid (Below w.heap.size w w1) := hid (((Below.refl _ w).alloc (Nat.le_refl _) _).trans (Mod.toBelow hm (by simp) (fun k hk h => by omega)))
    have HL1 := hid hln1
    have hz1 : w.heap.size < w1.heap.size := hln1.lt
    clear hm hln1 a1 a2 a3 a4 a5
    go_wp2_with fail
    refine (peek_any _ 0 0 nl _ _ HL1.out (by omega)).mono ?_
    rintro e w2 ⟨rfl, n2, rfl⟩
    go_wp2_with fail
    refine (string_any _ 0 0 nl _ _ (Blk.drewN HL1.out n2) (by omega) (Nat.zero_le _)).mono ?_
    rintro e w3 ⟨rfl, n3, rfl⟩
    rw [HX.out]
    go_wp2_with fail
    refine (hasPrefix_b s ⟨#[60, 33, 45, 45]⟩ _ (by omega) (by decide)).mono ?_
    rintro e w4 ⟨rfl, rfl⟩
    rw [show (ByteArray.mk #[60, 33, 45, 45]).data.toList.isPrefixOf s.data.toList = false from HT.out.p0]
    go_wp2_with fail
    refine (hasPrefix_b s ⟨#[60, 63]⟩ _ (by omega) (by decide)).mono ?_
    rintro e w4 ⟨rfl, rfl⟩
    rw [show (ByteArray.mk #[60, 63]).data.toList.isPrefixOf s.data.toList = false from HT.out.p1]
    go_wp2_with fail
    refine (hasPrefix_b s ⟨#[60, 33, 91, 67, 68, 65, 84, 65, 91]⟩ _ (by omega) (by decide)).mono ?_
    rintro e w4 ⟨rfl, rfl⟩
    rw [show (ByteArray.mk #[60, 33, 91, 67, 68, 65, 84, 65, 91]).data.toList.isPrefixOf s.data.toList = false from HT.out.p2]
    go_wp2_with fail
    refine (hasPrefix_b s ⟨#[60, 33]⟩ _ (by omega) (by decide)).mono ?_
    rintro e w4 ⟨rfl, rfl⟩
    rw [show (ByteArray.mk #[60, 33]).data.toList.isPrefixOf s.data.toList = false from HT.out.p3]
    have HE0 : Hid (Blk (World.alloc (World.drewN w1 (n2 + n3)) (.cells #[.string ⟨#[]⟩] 9)) w1.heap.size 9 #[.string ⟨#[]⟩]) := hid (Blk.new' rfl)
    have HBA : Hid (Below w.heap.size w (World.alloc (World.drewN w1 (n2 + n3)) (.cells #[.string ⟨#[]⟩] 9))) := hid ((below_drewN HB1.out (n2 + n3)).alloc (by simp; omega) _)
    generalize World.alloc (World.drewN w1 (n2 + n3)) _ = wa at HE0 HBA ⊢
    have q0 : wa.cell? ⟨w1.heap.size, 0, none⟩ = some (.string ⟨#[]⟩) := HE0.out.at_ 0 rfl
    obtain ⟨wm, hmk, hownm, hgrm⟩ := run_make_own (P := Tryz.prog) wa w.heap.size 56 5 iu0 _ 1 Tryz.underlying56 hiu hu0 hu1 .i64 .i64 16 (by rw [hu2]; decide) (by unfold maxLen; decide) HBA.out.size
    have hmk2 : (Instr.makeSlice 56 (.int .i64 0) (.int .i64 16)).run Tryz.prog wa = .ok (.slice (some ⟨wa.heap.size, 0, none⟩) 0 16) wm := hmk
    have HOM := hid hownm
    have HGM := hid hgrm
    clear hmk hownm hgrm
    go_wp2_with fail
    go_loopw [9, 10] (fun t9 t10 wr => BufR lo w t9 t10 wr) (fun t9 _ _ => s.size + 1 - (intOf t9).toNat)
    case atStart => exact ⟨0, wa.heap.size, 16, Nat.zero_le _, rfl, rfl, HOM.out, HBA.out.grown HGM.out HBA.out.size (fun q hq => (nomatch hq))⟩
    case round =>
      obtain ⟨m, gm, cap, hm, rfl, rfl, hown, hbel⟩ := hrel
      have HOWN := hid hown
      have HB := hid hbel
      clear hown hbel
      by_cases hml : m < lo.length
      · obtain ⟨c, hc, c1, c2, hcc⟩ := HT.out.chr m hml
        have HC := hid (tag_take2 hc)
        clear hc
        have f1 : ¬ bt s (1 + m) ≤ 90 := by omega
        have f2 : 65 ≤ bt s (1 + m) := by omega
        have key : ∀ (va : Value) (wa : World), wa.ownsRow w.heap.size 5 1 va (m + 1) ((lo.map byteV3).take m ++ [.int .u8 (c.toNat : Int)]) → ((wr.alloc (.cells #[.int .u8 (c.toNat : Int)] 5)).grownBy wa (Value.ownBlock (.slice (some ⟨gm, 0, none⟩) m cap))) → ∃ ga capa, va = .slice (some ⟨ga, 0, none⟩) (m + 1) capa ∧ wa.ownsRow w.heap.size 5 1 (.slice (some ⟨ga, 0, none⟩) (m + 1) capa) (m + 1) ((lo.map byteV3).take (m + 1)) ∧ Below w.heap.size w wa := fun va wa howna hgra => by
          obtain ⟨ga, capa, rfl, hca⟩ : ∃ ga capa, va = .slice (some ⟨ga, 0, none⟩) (m + 1) capa ∧ m + 1 ≤ capa := by
            rcases howna.2 with ⟨h1, h2⟩ | ⟨g2, cap2, cur, h1, _, _, h2, _⟩
            · exact absurd h2 (by omega)
            · exact ⟨g2, cap2, h1, h2⟩
          exact ⟨ga, capa, rfl, by rw [HC.out]; exact howna, (HB.out.alloc HB.out.size _).grown hgra (by have := HB.out.size; simp; omega) (fun q hq => ownBase HOWN.out hq.symm)⟩
        have HK := hid key
        clear key
        go_wp2_with (at_builtin; refine wpList_append_own_at _ rfl (.tmp 146) (.tmp 148) 56 rfl w.heap.size 5 iu0 _ 1 1 Tryz.underlying56 hiu hu0 hu1 hu2 rfl (by decide) (.slice (some ⟨gm, 0, none⟩) m cap) m ((lo.map byteV3).take m) rfl (World.ownsRow.alloc HOWN.out _) ⟨_, 0, none⟩ 1 1 [.int .u8 (c.toNat : Int)] rfl rfl (World.news_of_block (heap_alloc_new _ _)) (by intro v hv; simp at hv; subst hv; rfl) (by unfold maxLen; omega) (by omega) (by have := HB.out.size; simp; omega) ?_)
        intro va wb howna hgra hnila hata
        obtain ⟨ga, capa, rfl, ho, hbe⟩ := HK.out va wb howna hgra
        have HO := hid ho
        have HE := hid hbe
        clear howna hgra hnila hata ho hbe
        go_wp2_with fail
        go_roundw
        case rel => exact ⟨m + 1, ga, capa, hml, by go_num, rfl, HO.out, HE.out⟩
        case measure => simp [intOf]; omega
      · obtain rfl : m = lo.length := by omega
        have hbz := HT.out.bz
        have hown := HOWN.out
        rw [List.take_of_length_le (by rw [List.length_map]; exact Nat.le_refl _)] at hown
        have HN : Hid (NameSt lo w gm cap wr) := hid ⟨hown, HB.out⟩
        have hcell0 : wr.cell? ⟨gm, 0, none⟩ = some (.int .u8 (c0.toNat : Int)) := by
          have h := World.ownsRow.cellAt hown 0 (by have := HT.out.pos; omega)
          rw [List.getElem?_map, HC0.out] at h
          exact h
        have hcv := conv_row3 hown
        clear hown HOWN HB hmk2 HOM HGM q0 HE0 HBA HB1 HL1
        have hlp := HT.out.pos
        rcases HZ.out with ⟨rfl, _⟩ | ⟨rfl, _, _⟩
        all_goals
          go_wp2_with fail
          refine (htmlTags_any _).mono ?_
          rintro e w5 ⟨tn, rfl, htn, htab, hb5⟩
          have HB5 : Hid (Below w.heap.size w w5) := hid (HN.out.2.trans (hb5.mono HN.out.2.size))
          have hown5 := own_mod HN.out.1 (Mod.below' (S := fun _ => False) hb5) (fun _ _ x => x)
          have HN5 : Hid (NameSt lo w gm cap w5) := hid ⟨hown5, HB5.out⟩
          have hcv5 := conv_row3 hown5
          have HTAB := hid htab
          have hgl5 : gm < w5.heap.size := ownLt hown5 rfl
          clear hown5 htab hb5 hcv hcell0
          go_wp2_with fail
          go_loopw [14, 186] (fun t14 t186 wy => ∃ i : Nat, i ≤ 62 ∧ t186 = .int .i64 i ∧ t14 = .bool false ∧ w5 = wy) (fun _ t186 _ => 63 - (intOf t186).toNat)
          case atStart => exact ⟨0, by omega, rfl, rfl, rfl⟩
          case round =>
            obtain ⟨i, hi, rfl, rfl, rfl⟩ := hrel
            by_cases hil : i < 62
            · obtain ⟨nm, hnm, hnl⟩ : ∃ nm, tagsB[i]? = some nm ∧ nm ≠ lo := HNOT.out i hil
              have hcl : w5.cell? ⟨tn, i, none⟩ = some (.string ⟨nm.toArray⟩) := HTAB.out.at_ i (v := .string ⟨nm.toArray⟩) (by rw [tagsL_eq, List.getElem?_toArray, List.getElem?_map, hnm]; rfl)
              obtain ⟨l1, l2⟩ := tags_pos nm (List.mem_of_getElem? hnm)
              have hNz : (ByteArray.mk nm.toArray).size = nm.length := sz_mk nm
              have hNe : ((ByteArray.mk nm.toArray).toList == lo) = false := by
                rw [beq_eq_false_iff_ne]
                intro e
                exact hnl (by rw [← e, Lib.toList_data])
              have hi62 : i < 62 := by omega
              clear hnm hnl
              generalize ByteArray.mk nm.toArray = N at hcl hNz hNe
              rw [← hNz] at l1 l2
              clear hNz
              have hbN := get_bt N
              by_cases q1 : bt N 0 = (c0.toNat : Int)
              · have e1 : (bt N 0 == (c0.toNat : Int)) = true := by simpa using q1
                by_cases q2 : N.size = lo.length
                · go_wp2_with fail
                  go_roundw
                  case rel => exact ⟨i + 1, by omega, by go_num, rfl, trivial⟩
                  case measure => simp [intOf]; omega
                · have e2 : ((N.size : Int) == (lo.length : Int)) = false := by simp; omega
                  go_wp2_with fail
                  go_roundw
                  case rel => exact ⟨i + 1, by omega, by go_num, rfl, trivial⟩
                  case measure => simp [intOf]; omega
              · have e1 : (bt N 0 == (c0.toNat : Int)) = false := by simpa using q1
                go_wp2_with fail
                go_roundw
                case rel => exact ⟨i + 1, by omega, by go_num, rfl, trivial⟩
                case measure => simp [intOf]; omega
            · obtain rfl : i = 62 := by omega
              go_wp2_with fail
              go_step3
              exact ⟨rfl, gm, cap, nthH _, shframe_eq _ (by kernel_rfl), HN5.out⟩
  · rintro a' w1 ⟨gb, cap, U, rfl, hown, hbel⟩
    have HB := hid hbel
    have hbz := HT.out.bz
    have hcv := conv_row3 hown
    clear hown hbel
    rcases HZ.out with ⟨rfl, hb1⟩ | ⟨rfl, hb1, hb2⟩
    all_goals
      go_wp2_with fail
      refine (HADD.out w1.heap.size _ (by have := HB.out.size; omega) (HB.out.alloc HB.out.size _)).mono ?_
      rintro e w5 ⟨rfl, hm5, hS5⟩
      have hzb : w.heap.size ≤ w1.heap.size := HB.out.size
      have HL5 : Hid (IsLn w5 pk 0 0 s nl) := hid ((Blk.alloc (HLN.out.mod (Mod.below' (S := fun _ => False) HB.out) (fun x => x)) _).mod hm5 (by show ¬ pk < base; omega))
      have HK5 : Hid (Blk w5 w1.heap.size 284 #[.bool false, .slice none 0 0, (.func (Fn.func 181) #[] #[])]) := hid (Blk.mod (w := World.alloc w1 (.cells #[.bool false, .slice none 0 0, (.func (Fn.func 181) #[] #[])] 284)) (Blk.new' rfl) hm5 (by show ¬ w1.heap.size < base; omega))
      have HM5 : Hid (Mod (fun j => j < base ∨ w.heap.size ≤ j) w w5) := hid ((Mod.below ((HB.out.alloc HB.out.size (.cells #[.bool false, .slice none 0 0, (.func (Fn.func 181) #[] #[])] 284))) (fun k _ h => .inr h)).trans hm5 (fun k _ h => .inl h))
      have HS5 := hid hS5
      have hz5 : w1.heap.size + 1 ≤ w5.heap.size := by have := hm5.size; simp at this; omega
      have hB5 : B ≤ w5.heap.size := by omega
      clear hm5 hS5
      have p1 : w5.cell? ⟨w1.heap.size, 1, none⟩ = some (.slice none 0 0) := HK5.out.at_ 1 rfl
      have fp := HK5.out.free
      have p2 : ∀ k o, ((w5.drewN k).alloc o).cell? ⟨w1.heap.size, 1, none⟩ = some (.slice none 0 0) := fun k o => (Blk.alloc (w := w5.drewN k) HK5.out o).at_ 1 rfl
      go_wp2_with fail
      go_region_law (first
          | (go_simp; go_at_call 126; refine (string_any pk 0 0 nl s _ ?_ (by omega) (Nat.zero_le _)).mono ?_; (· exact HL5.out); rintro e w6 ⟨rfl, n6, rfl⟩)
          | (refine step_append_lies _ rfl (.tmp 281) (.tmp 284) 33 (by rfl) B 9 is0 _ 1 16 Tryz.underlying33 his hsz0 hsz1 hsz2 rfl (by decide) (.slice none 0 0) 0 [] (by rfl) (World.ownsRow_nil _ _ _ _) ⟨w5.heap.size, 0, none⟩ 1 1 [.string s] (by rfl) rfl (World.news_of_block (heap_alloc_new _ _)) (by intro v hv; simp at hv; subst hv; rfl) (by omega) (by unfold maxLen; omega) (by omega) (by simp; omega) (w5.heap.size + 1) (by simp) ?_
             intro g2 cap2 w7 hown7 hgr7 hat7 hlt7
             have hp7 : Blk w7 w1.heap.size 284 #[.bool false, .slice none 0 0, (.func (Fn.func 181) #[] #[])] := Blk.grown (Blk.alloc (w := World.drewN w5 _) HK5.out _) hgr7 (by simp [Value.ownBlock])
             have q7 : w7.cell? ⟨w1.heap.size, 1, none⟩ = some (.slice none 0 0) := hp7.at_ 1 rfl
             have fq := hp7.free))
      all_goals
        have HK7 := hid (show Blk (w7.setCell ⟨w1.heap.size, 1, none⟩ (.slice (some ⟨g2, 0, none⟩) 1 cap2)) w1.heap.size 284 #[.bool false, .slice (some ⟨g2, 0, none⟩) 1 cap2, (.func (Fn.func 181) #[] #[])] from by simpa using Blk.set_ hp7 1 (.slice (some ⟨g2, 0, none⟩) 1 cap2))
        have HO7 : Hid (World.ownsRow (w7.setCell ⟨w1.heap.size, 1, none⟩ (.slice (some ⟨g2, 0, none⟩) 1 cap2)) B 9 1 (.slice (some ⟨g2, 0, none⟩) 1 cap2) 1 [.string s]) := hid (by
          exact own_far hown7 (p := ⟨w1.heap.size, 1, none⟩) (own_ne hown7 hp7 (by decide)) _)
        have HM7 : Hid (Mod (fun j => j = w1.heap.size) w5 (w7.setCell ⟨w1.heap.size, 1, none⟩ (.slice (some ⟨g2, 0, none⟩) 1 cap2))) := hid ((Mod.grown ((Mod.drewN (Mod.refl (fun j => j = w1.heap.size) w5) _).alloc _) hgr7 (fun k hk => by simp [Value.ownBlock] at hk)).setCell (p := ⟨w1.heap.size, 1, none⟩) (.inl rfl) _)
        clear hown7 hgr7 hat7 hlt7 hp7 q7 fq p1 p2 fp
        generalize World.setCell w7 ⟨w1.heap.size, 1, none⟩ _ = wc at HK7 HO7 HM7 ⊢
        go_wp2_with fail
        refine (HEND.out wc).mono ?_
        rintro e w8 ⟨rfl, rfl⟩
        go_wp2_with fail
        simp only [Exit.jump]
        go_ret
        exact ⟨rfl, w1.heap.size, ⟨some ⟨g2, 0, none⟩, 1, cap2⟩, (.func (Fn.func 181) #[] #[]), w5, HS5.out, hzb, ⟨HK7.out, HO7.out, by omega, rfl⟩, rfl, HM7.out, HM5.out, _, HK5.out⟩
end Go.Proofs.YtmmijmhdbpldpaaGreatDoor
/- A block of HTML begins: an opening of a known name; a tag of another name begins none in a paragraph. -/

namespace Go.Proofs.YtmmijmhdbpldpaaGreatDoor
open Go.RowKit
set_option maxRecDepth 20000 in
set_option maxHeartbeats 8000000 in
theorem startHTML_own (g pk pb : Nat) (s : ByteArray) (lo : List UInt8) (nl : Int) (w : World) (hln : IsLn w pk 0 0 s nl) (hT : TagAt s lo 45) (hpar : ∀ W, Below w.heap.size w W → Calls Tryz.prog 93 #[.pointer (some ⟨g, 0, none⟩)] W fun e w' => e = .returned (.pointer (some ⟨pb, 0, none⟩)) ∧ ∃ n, w' = W.drewN n) :
    Calls Tryz.prog 140 #[.pointer (some ⟨g, 0, none⟩), .pointer (some ⟨pk, 0, none⟩)] w fun e w' => e = .returned (.bool false) ∧ Below w.heap.size w w' := by
  obtain ⟨is0, his, hsz0, hsz1, hsz2⟩ := info_parts infoStrP
  obtain ⟨iu0, hiu, hu0, hu1, hu2⟩ := info_parts infoU8h
  have h0 := hln.c0
  have h1 := hln.c1
  have h2 := hln.c2
  have h3 := hln.c3
  have h4 := hln.c4
  have hb := get_bt s
  have e60 : (bt s 0 != 60) = false := by rw [hT.b60]; rfl
  have HX : Hid (s.extract 0 s.size = s) := hid (by rw [extract_end]; simp)
  have HT := hid hT
  have HLN := hid hln
  have hpl := Blk.lt hln
  have hs := hT.size
  have hn10 := hT.len
  have hend1 := hT.end_
  obtain ⟨c0, hc0, hc1, hc2, hc3⟩ := hT.chr 0 hT.pos
  have e47 : (bt s 1 == 47) = false := by
    have : bt s 1 = c0.toNat := hc3
    rw [this]; simp; omega
  have e47b : (bt s 1 != 47) = true := by simp [bne, e47]
  have HC0 := hid hc0
  clear hln hT hc0 hc1 hc2 hc3
  have HPAR := hid hpar
  clear hpar
  go_enter Tryz.func140, Tryz.ntmps140
  go_wp2_with fail
  refine wp_scope_jumps 0 (fun a' w' => ∃ (gb cap : Nat) (U : Nat → Value), a' = shFrame g pk gb lo.length cap ((1 + lo.length : Nat) : Int) s U ∧ NameSt lo w gb cap w') (fun _ _ => 0) rfl ?_ ?_
  · skip
    go_wp2_with fail
    refine (trimSp_any _ 0 0 3 false 0 nl s _ (Blk.new' rfl) (by omega) (Nat.zero_le _) HT.out.tab (by omega) (by omega)).mono ?_
    rintro e w1 ⟨j, a1, a2, a3, a4, a5, a6, hm⟩
    have hj : j = 0 := by
      rcases Nat.eq_or_lt_of_le a1 with h | h
      · exact h.symm
      · exact absurd (a4 0 (Nat.le_refl _) h) (by rw [HT.out.b60]; decide)
    subst hj
    rcases a6 with ⟨rfl, _, hln1⟩ | ⟨_, hbad, _⟩
    case inr => omega
    have HB1 : Hid (Below w.heap.size w w1) := hid (((Below.refl _ w).alloc (Nat.le_refl _) _).trans (Mod.toBelow hm (by simp) (fun k hk h => by omega)))
    have HL1 := hid hln1
    have hz1 : w.heap.size < w1.heap.size := hln1.lt
    clear hm hln1 a1 a2 a3 a4 a5
    go_wp2_with fail
    refine (peek_any _ 0 0 nl _ _ HL1.out (by omega)).mono ?_
    rintro e w2 ⟨rfl, n2, rfl⟩
    go_wp2_with fail
    refine (string_any _ 0 0 nl _ _ (Blk.drewN HL1.out n2) (by omega) (Nat.zero_le _)).mono ?_
    rintro e w3 ⟨rfl, n3, rfl⟩
    rw [HX.out]
    go_wp2_with fail
    refine (hasPrefix_b s ⟨#[60, 33, 45, 45]⟩ _ (by omega) (by decide)).mono ?_
    rintro e w4 ⟨rfl, rfl⟩
    rw [show (ByteArray.mk #[60, 33, 45, 45]).data.toList.isPrefixOf s.data.toList = false from HT.out.p0]
    go_wp2_with fail
    refine (hasPrefix_b s ⟨#[60, 63]⟩ _ (by omega) (by decide)).mono ?_
    rintro e w4 ⟨rfl, rfl⟩
    rw [show (ByteArray.mk #[60, 63]).data.toList.isPrefixOf s.data.toList = false from HT.out.p1]
    go_wp2_with fail
    refine (hasPrefix_b s ⟨#[60, 33, 91, 67, 68, 65, 84, 65, 91]⟩ _ (by omega) (by decide)).mono ?_
    rintro e w4 ⟨rfl, rfl⟩
    rw [show (ByteArray.mk #[60, 33, 91, 67, 68, 65, 84, 65, 91]).data.toList.isPrefixOf s.data.toList = false from HT.out.p2]
    go_wp2_with fail
    refine (hasPrefix_b s ⟨#[60, 33]⟩ _ (by omega) (by decide)).mono ?_
    rintro e w4 ⟨rfl, rfl⟩
    rw [show (ByteArray.mk #[60, 33]).data.toList.isPrefixOf s.data.toList = false from HT.out.p3]
    have HE0 : Hid (Blk (World.alloc (World.drewN w1 (n2 + n3)) (.cells #[.string ⟨#[]⟩] 9)) w1.heap.size 9 #[.string ⟨#[]⟩]) := hid (Blk.new' rfl)
    have HBA : Hid (Below w.heap.size w (World.alloc (World.drewN w1 (n2 + n3)) (.cells #[.string ⟨#[]⟩] 9))) := hid ((below_drewN HB1.out (n2 + n3)).alloc (by simp; omega) _)
    generalize World.alloc (World.drewN w1 (n2 + n3)) _ = wa at HE0 HBA ⊢
    have q0 : wa.cell? ⟨w1.heap.size, 0, none⟩ = some (.string ⟨#[]⟩) := HE0.out.at_ 0 rfl
    obtain ⟨wm, hmk, hownm, hgrm⟩ := run_make_own (P := Tryz.prog) wa w.heap.size 56 5 iu0 _ 1 Tryz.underlying56 hiu hu0 hu1 .i64 .i64 16 (by rw [hu2]; decide) (by unfold maxLen; decide) HBA.out.size
    have hmk2 : (Instr.makeSlice 56 (.int .i64 0) (.int .i64 16)).run Tryz.prog wa = .ok (.slice (some ⟨wa.heap.size, 0, none⟩) 0 16) wm := hmk
    have HOM := hid hownm
    have HGM := hid hgrm
    clear hmk hownm hgrm
    go_wp2_with fail
    go_loopw [9, 10] (fun t9 t10 wr => BufR lo w t9 t10 wr) (fun t9 _ _ => s.size + 1 - (intOf t9).toNat)
    case atStart => exact ⟨0, wa.heap.size, 16, Nat.zero_le _, rfl, rfl, HOM.out, HBA.out.grown HGM.out HBA.out.size (fun q hq => (nomatch hq))⟩
    case round =>
      obtain ⟨m, gm, cap, hm, rfl, rfl, hown, hbel⟩ := hrel
      have HOWN := hid hown
      have HB := hid hbel
      clear hown hbel
      by_cases hml : m < lo.length
      · obtain ⟨c, hc, c1, c2, hcc⟩ := HT.out.chr m hml
        have HC := hid (tag_take2 hc)
        clear hc
        have f1 : ¬ bt s (1 + m) ≤ 90 := by omega
        have f2 : 65 ≤ bt s (1 + m) := by omega
        have key : ∀ (va : Value) (wa : World), wa.ownsRow w.heap.size 5 1 va (m + 1) ((lo.map byteV3).take m ++ [.int .u8 (c.toNat : Int)]) → ((wr.alloc (.cells #[.int .u8 (c.toNat : Int)] 5)).grownBy wa (Value.ownBlock (.slice (some ⟨gm, 0, none⟩) m cap))) → ∃ ga capa, va = .slice (some ⟨ga, 0, none⟩) (m + 1) capa ∧ wa.ownsRow w.heap.size 5 1 (.slice (some ⟨ga, 0, none⟩) (m + 1) capa) (m + 1) ((lo.map byteV3).take (m + 1)) ∧ Below w.heap.size w wa := fun va wa howna hgra => by
          obtain ⟨ga, capa, rfl, hca⟩ : ∃ ga capa, va = .slice (some ⟨ga, 0, none⟩) (m + 1) capa ∧ m + 1 ≤ capa := by
            rcases howna.2 with ⟨h1, h2⟩ | ⟨g2, cap2, cur, h1, _, _, h2, _⟩
            · exact absurd h2 (by omega)
            · exact ⟨g2, cap2, h1, h2⟩
          exact ⟨ga, capa, rfl, by rw [HC.out]; exact howna, (HB.out.alloc HB.out.size _).grown hgra (by have := HB.out.size; simp; omega) (fun q hq => ownBase HOWN.out hq.symm)⟩
        have HK := hid key
        clear key
        go_wp2_with (at_builtin; refine wpList_append_own_at _ rfl (.tmp 146) (.tmp 148) 56 rfl w.heap.size 5 iu0 _ 1 1 Tryz.underlying56 hiu hu0 hu1 hu2 rfl (by decide) (.slice (some ⟨gm, 0, none⟩) m cap) m ((lo.map byteV3).take m) rfl (World.ownsRow.alloc HOWN.out _) ⟨_, 0, none⟩ 1 1 [.int .u8 (c.toNat : Int)] rfl rfl (World.news_of_block (heap_alloc_new _ _)) (by intro v hv; simp at hv; subst hv; rfl) (by unfold maxLen; omega) (by omega) (by have := HB.out.size; simp; omega) ?_)
        intro va wb howna hgra hnila hata
        obtain ⟨ga, capa, rfl, ho, hbe⟩ := HK.out va wb howna hgra
        have HO := hid ho
        have HE := hid hbe
        clear howna hgra hnila hata ho hbe
        go_wp2_with fail
        go_roundw
        case rel => exact ⟨m + 1, ga, capa, hml, by go_num, rfl, HO.out, HE.out⟩
        case measure => simp [intOf]; omega
      · obtain rfl : m = lo.length := by omega
        have hbz := HT.out.bz
        have hown := HOWN.out
        rw [List.take_of_length_le (by rw [List.length_map]; exact Nat.le_refl _)] at hown
        have HN : Hid (NameSt lo w gm cap wr) := hid ⟨hown, HB.out⟩
        have hcell0 : wr.cell? ⟨gm, 0, none⟩ = some (.int .u8 (c0.toNat : Int)) := by
          have h := World.ownsRow.cellAt hown 0 (by have := HT.out.pos; omega)
          rw [List.getElem?_map, HC0.out] at h
          exact h
        have hcv := conv_row3 hown
        clear hown HOWN HB hmk2 HOM HGM q0 HE0 HBA HB1 HL1
        go_wp2_with fail
        go_step3
        exact ⟨rfl, gm, cap, nthH _, shframe_eq _ (by kernel_rfl), HN.out⟩
  · rintro a' w1 ⟨gb, cap, U, rfl, hown, hbel⟩
    have HB := hid hbel
    have hbz := HT.out.bz
    clear hown hbel
    go_wp2_with fail
    refine (HPAR.out w1 HB.out).mono ?_
    rintro e w2 ⟨rfl, n2, rfl⟩
    go_wp2_with fail
    simp only [Exit.jump]
    go_ret
    exact ⟨rfl, below_drewN HB.out n2⟩
set_option maxRecDepth 20000 in
set_option maxHeartbeats 8000000 in
theorem startHTML_div (B base g pk : Nat) (S : Nat → World → Prop) (s : ByteArray) (lo : List UInt8) (nl : Int) (w : World) (hB : B ≤ base) (hbase : base ≤ pk) (hln : IsLn w pk 0 0 s nl) (hT : TagAt s lo 32) (hlo : lo = [100, 105, 118]) (hadd : ∀ hb W, base ≤ hb → Below w.heap.size w W → Calls Tryz.prog 52 #[.pointer (some ⟨g, 0, none⟩), .iface 282 (.pointer (some ⟨hb, 0, none⟩))] W fun e w' => e = .returned (.tuple #[]) ∧ Mod (fun k => k < base) W w' ∧ S hb w') :
    Calls Tryz.prog 140 #[.pointer (some ⟨g, 0, none⟩), .pointer (some ⟨pk, 0, none⟩)] w fun e w' => e = .returned (.bool true) ∧ StartP B base S .non s w w' := by
  obtain ⟨is0, his, hsz0, hsz1, hsz2⟩ := info_parts infoStrP
  obtain ⟨iu0, hiu, hu0, hu1, hu2⟩ := info_parts infoU8h
  have h0 := hln.c0
  have h1 := hln.c1
  have h2 := hln.c2
  have h3 := hln.c3
  have h4 := hln.c4
  have hb := get_bt s
  have e60 : (bt s 0 != 60) = false := by rw [hT.b60]; rfl
  have HX : Hid (s.extract 0 s.size = s) := hid (by rw [extract_end]; simp)
  have HT := hid hT
  have HLN := hid hln
  have hpl := Blk.lt hln
  have hs := hT.size
  have hn10 := hT.len
  have hend1 := hT.end_
  obtain ⟨c0, hc0, hc1, hc2, hc3⟩ := hT.chr 0 hT.pos
  have e47 : (bt s 1 == 47) = false := by
    have : bt s 1 = c0.toNat := hc3
    rw [this]; simp; omega
  have e47b : (bt s 1 != 47) = true := by simp [bne, e47]
  have HC0 := hid hc0
  clear hln hT hc0 hc1 hc2 hc3
  have HADD := hid hadd
  have HNOT : Hid (∀ i, i < 15 → ∃ nm, tagsB[i]? = some nm ∧ nm ≠ lo) := hid (fun i hi => ⟨tagsB[i]'(by rw [tags_len]; omega), List.getElem?_eq_getElem _, fun e => by
    rw [hlo] at e
    exact tags_div2 i hi e⟩)
  have hl3 : lo.length = 3 := by rw [hlo]; rfl
  have hc0e : (c0.toNat : Int) = 100 := by
    have h := HC0.out
    rw [hlo] at h
    simp only [List.getElem?_cons_zero, Option.some.injEq] at h
    rw [← h]; rfl
  have heq1 : (([100, 105, 118] : List UInt8) == lo) = true := by rw [hlo]; rfl
  have HL3 := hid hl3
  have HC0E := hid hc0e
  have HEQ1 := hid heq1
  clear hadd hlo hl3 hc0e heq1
  go_enter Tryz.func140, Tryz.ntmps140
  go_wp2_with fail
  refine wp_scope_jumps 0 (fun _ _ => False) (fun _ _ => 0) rfl ?_ ?_
  · skip
    go_wp2_with fail
    refine (trimSp_any _ 0 0 3 false 0 nl s _ (Blk.new' rfl) (by omega) (Nat.zero_le _) HT.out.tab (by omega) (by omega)).mono ?_
    rintro e w1 ⟨j, a1, a2, a3, a4, a5, a6, hm⟩
    have hj : j = 0 := by
      rcases Nat.eq_or_lt_of_le a1 with h | h
      · exact h.symm
      · exact absurd (a4 0 (Nat.le_refl _) h) (by rw [HT.out.b60]; decide)
    subst hj
    rcases a6 with ⟨rfl, _, hln1⟩ | ⟨_, hbad, _⟩
    case inr => omega
    have HB1 : Hid (Below w.heap.size w w1) := hid (((Below.refl _ w).alloc (Nat.le_refl _) _).trans (Mod.toBelow hm (by simp) (fun k hk h => by omega)))
    have HL1 := hid hln1
    have hz1 : w.heap.size < w1.heap.size := hln1.lt
    clear hm hln1 a1 a2 a3 a4 a5
    go_wp2_with fail
    refine (peek_any _ 0 0 nl _ _ HL1.out (by omega)).mono ?_
    rintro e w2 ⟨rfl, n2, rfl⟩
    go_wp2_with fail
    refine (string_any _ 0 0 nl _ _ (Blk.drewN HL1.out n2) (by omega) (Nat.zero_le _)).mono ?_
    rintro e w3 ⟨rfl, n3, rfl⟩
    rw [HX.out]
    go_wp2_with fail
    refine (hasPrefix_b s ⟨#[60, 33, 45, 45]⟩ _ (by omega) (by decide)).mono ?_
    rintro e w4 ⟨rfl, rfl⟩
    rw [show (ByteArray.mk #[60, 33, 45, 45]).data.toList.isPrefixOf s.data.toList = false from HT.out.p0]
    go_wp2_with fail
    refine (hasPrefix_b s ⟨#[60, 63]⟩ _ (by omega) (by decide)).mono ?_
    rintro e w4 ⟨rfl, rfl⟩
    rw [show (ByteArray.mk #[60, 63]).data.toList.isPrefixOf s.data.toList = false from HT.out.p1]
    go_wp2_with fail
    refine (hasPrefix_b s ⟨#[60, 33, 91, 67, 68, 65, 84, 65, 91]⟩ _ (by omega) (by decide)).mono ?_
    rintro e w4 ⟨rfl, rfl⟩
    rw [show (ByteArray.mk #[60, 33, 91, 67, 68, 65, 84, 65, 91]).data.toList.isPrefixOf s.data.toList = false from HT.out.p2]
    go_wp2_with fail
    refine (hasPrefix_b s ⟨#[60, 33]⟩ _ (by omega) (by decide)).mono ?_
    rintro e w4 ⟨rfl, rfl⟩
    rw [show (ByteArray.mk #[60, 33]).data.toList.isPrefixOf s.data.toList = false from HT.out.p3]
    have HE0 : Hid (Blk (World.alloc (World.drewN w1 (n2 + n3)) (.cells #[.string ⟨#[]⟩] 9)) w1.heap.size 9 #[.string ⟨#[]⟩]) := hid (Blk.new' rfl)
    have HBA : Hid (Below w.heap.size w (World.alloc (World.drewN w1 (n2 + n3)) (.cells #[.string ⟨#[]⟩] 9))) := hid ((below_drewN HB1.out (n2 + n3)).alloc (by simp; omega) _)
    generalize World.alloc (World.drewN w1 (n2 + n3)) _ = wa at HE0 HBA ⊢
    have q0 : wa.cell? ⟨w1.heap.size, 0, none⟩ = some (.string ⟨#[]⟩) := HE0.out.at_ 0 rfl
    obtain ⟨wm, hmk, hownm, hgrm⟩ := run_make_own (P := Tryz.prog) wa w.heap.size 56 5 iu0 _ 1 Tryz.underlying56 hiu hu0 hu1 .i64 .i64 16 (by rw [hu2]; decide) (by unfold maxLen; decide) HBA.out.size
    have hmk2 : (Instr.makeSlice 56 (.int .i64 0) (.int .i64 16)).run Tryz.prog wa = .ok (.slice (some ⟨wa.heap.size, 0, none⟩) 0 16) wm := hmk
    have HOM := hid hownm
    have HGM := hid hgrm
    clear hmk hownm hgrm
    go_wp2_with fail
    go_loopw [9, 10] (fun t9 t10 wr => BufR lo w t9 t10 wr) (fun t9 _ _ => s.size + 1 - (intOf t9).toNat)
    case atStart => exact ⟨0, wa.heap.size, 16, Nat.zero_le _, rfl, rfl, HOM.out, HBA.out.grown HGM.out HBA.out.size (fun q hq => (nomatch hq))⟩
    case round =>
      obtain ⟨m, gm, cap, hm, rfl, rfl, hown, hbel⟩ := hrel
      have HOWN := hid hown
      have HB := hid hbel
      clear hown hbel
      by_cases hml : m < lo.length
      · obtain ⟨c, hc, c1, c2, hcc⟩ := HT.out.chr m hml
        have HC := hid (tag_take2 hc)
        clear hc
        have f1 : ¬ bt s (1 + m) ≤ 90 := by omega
        have f2 : 65 ≤ bt s (1 + m) := by omega
        have key : ∀ (va : Value) (wa : World), wa.ownsRow w.heap.size 5 1 va (m + 1) ((lo.map byteV3).take m ++ [.int .u8 (c.toNat : Int)]) → ((wr.alloc (.cells #[.int .u8 (c.toNat : Int)] 5)).grownBy wa (Value.ownBlock (.slice (some ⟨gm, 0, none⟩) m cap))) → ∃ ga capa, va = .slice (some ⟨ga, 0, none⟩) (m + 1) capa ∧ wa.ownsRow w.heap.size 5 1 (.slice (some ⟨ga, 0, none⟩) (m + 1) capa) (m + 1) ((lo.map byteV3).take (m + 1)) ∧ Below w.heap.size w wa := fun va wa howna hgra => by
          obtain ⟨ga, capa, rfl, hca⟩ : ∃ ga capa, va = .slice (some ⟨ga, 0, none⟩) (m + 1) capa ∧ m + 1 ≤ capa := by
            rcases howna.2 with ⟨h1, h2⟩ | ⟨g2, cap2, cur, h1, _, _, h2, _⟩
            · exact absurd h2 (by omega)
            · exact ⟨g2, cap2, h1, h2⟩
          exact ⟨ga, capa, rfl, by rw [HC.out]; exact howna, (HB.out.alloc HB.out.size _).grown hgra (by have := HB.out.size; simp; omega) (fun q hq => ownBase HOWN.out hq.symm)⟩
        have HK := hid key
        clear key
        go_wp2_with (at_builtin; refine wpList_append_own_at _ rfl (.tmp 146) (.tmp 148) 56 rfl w.heap.size 5 iu0 _ 1 1 Tryz.underlying56 hiu hu0 hu1 hu2 rfl (by decide) (.slice (some ⟨gm, 0, none⟩) m cap) m ((lo.map byteV3).take m) rfl (World.ownsRow.alloc HOWN.out _) ⟨_, 0, none⟩ 1 1 [.int .u8 (c.toNat : Int)] rfl rfl (World.news_of_block (heap_alloc_new _ _)) (by intro v hv; simp at hv; subst hv; rfl) (by unfold maxLen; omega) (by omega) (by have := HB.out.size; simp; omega) ?_)
        intro va wb howna hgra hnila hata
        obtain ⟨ga, capa, rfl, ho, hbe⟩ := HK.out va wb howna hgra
        have HO := hid ho
        have HE := hid hbe
        clear howna hgra hnila hata ho hbe
        go_wp2_with fail
        go_roundw
        case rel => exact ⟨m + 1, ga, capa, hml, by go_num, rfl, HO.out, HE.out⟩
        case measure => simp [intOf]; omega
      · obtain rfl : m = lo.length := by omega
        have hbz := HT.out.bz
        have hown := HOWN.out
        rw [List.take_of_length_le (by rw [List.length_map]; exact Nat.le_refl _)] at hown
        have HN : Hid (NameSt lo w gm cap wr) := hid ⟨hown, HB.out⟩
        have hcell0 : wr.cell? ⟨gm, 0, none⟩ = some (.int .u8 (c0.toNat : Int)) := by
          have h := World.ownsRow.cellAt hown 0 (by have := HT.out.pos; omega)
          rw [List.getElem?_map, HC0.out] at h
          exact h
        have hcv := conv_row3 hown
        clear hown HOWN HB hmk2 HOM HGM q0 HE0 HBA HB1 HL1
        have hlp := HT.out.pos
        go_wp2_with fail
        refine (htmlTags_any _).mono ?_
        rintro e wt ⟨tn, rfl, htn, htab, hb5⟩
        have HB5 : Hid (Below w.heap.size w wt) := hid (HN.out.2.trans (hb5.mono HN.out.2.size))
        have hown5 := own_mod HN.out.1 (Mod.below' (S := fun _ => False) hb5) (fun _ _ x => x)
        have HN5 : Hid (NameSt lo w gm cap wt) := hid ⟨hown5, HB5.out⟩
        have hcv5 := conv_row3 hown5
        have HTAB := hid htab
        have hgl5 : gm < wt.heap.size := ownLt hown5 rfl
        clear hown5 htab hb5 hcv hcell0
        go_wp2_with fail
        go_loopw [14, 186] (fun t14 t186 wy => ∃ i : Nat, i ≤ 15 ∧ t186 = .int .i64 i ∧ t14 = .bool false ∧ wt = wy) (fun _ t186 _ => 63 - (intOf t186).toNat)
        case atStart => exact ⟨0, by omega, rfl, rfl, rfl⟩
        case round =>
          obtain ⟨i, hi, rfl, rfl, rfl⟩ := hrel
          by_cases hil : i < 15
          · obtain ⟨nm, hnm, hnl⟩ : ∃ nm, tagsB[i]? = some nm ∧ nm ≠ lo := HNOT.out i hil
            have hcl : wt.cell? ⟨tn, i, none⟩ = some (.string ⟨nm.toArray⟩) := HTAB.out.at_ i (v := .string ⟨nm.toArray⟩) (by rw [tagsL_eq, List.getElem?_toArray, List.getElem?_map, hnm]; rfl)
            obtain ⟨l1, l2⟩ := tags_pos nm (List.mem_of_getElem? hnm)
            have hNz : (ByteArray.mk nm.toArray).size = nm.length := sz_mk nm
            have hNe : ((ByteArray.mk nm.toArray).toList == lo) = false := by
              rw [beq_eq_false_iff_ne]
              intro e
              exact hnl (by rw [← e, Lib.toList_data])
            have hi62 : i < 62 := by omega
            clear hnm hnl
            generalize ByteArray.mk nm.toArray = N at hcl hNz hNe
            rw [← hNz] at l1 l2
            clear hNz
            have hbN := get_bt N
            by_cases q1 : bt N 0 = (c0.toNat : Int)
            · have e1 : (bt N 0 == (c0.toNat : Int)) = true := by simpa using q1
              by_cases q2 : N.size = lo.length
              · go_wp2_with fail
                go_roundw
                case rel => exact ⟨i + 1, by omega, by go_num, rfl, trivial⟩
                case measure => simp [intOf]; omega
              · have e2 : ((N.size : Int) == (lo.length : Int)) = false := by simp; omega
                go_wp2_with fail
                go_roundw
                case rel => exact ⟨i + 1, by omega, by go_num, rfl, trivial⟩
                case measure => simp [intOf]; omega
            · have e1 : (bt N 0 == (c0.toNat : Int)) = false := by simpa using q1
              go_wp2_with fail
              go_roundw
              case rel => exact ⟨i + 1, by omega, by go_num, rfl, trivial⟩
              case measure => simp [intOf]; omega
          · obtain rfl : i = 15 := by omega
            have hclD : wt.cell? ⟨tn, 15, none⟩ = some (.string ⟨#[100, 105, 118]⟩) := HTAB.out.at_ 15 (v := .string ⟨#[100, 105, 118]⟩) (by rw [tagsL_eq, List.getElem?_toArray, List.getElem?_map, tags_div]; rfl)
            have HB := HB5
            obtain ⟨N, hN⟩ : ∃ N, N = ByteArray.mk #[100, 105, 118] := ⟨_, rfl⟩
            rw [← hN] at hclD
            have l1 : 0 < N.size := by rw [hN]; decide
            have l2 : N.size ≤ 20 := by rw [hN]; decide
            have hbN := get_bt N
            have q0 : bt N 0 = (c0.toNat : Int) := by rw [hN, HC0E.out]; rfl
            have e1 : (bt N 0 == (c0.toNat : Int)) = true := by simpa using q0
            have q2 : N.size = lo.length := by rw [hN, HL3.out]; rfl
            have e2 : ((N.size : Int) == (lo.length : Int)) = true := by rw [q2]; simp
            have e3 : (N.toList == lo) = true := by rw [hN, Lib.toList_data]; exact HEQ1.out
            clear hN q2
            go_wp2_with fail
            refine (HADD.out wt.heap.size _ (by have := HB.out.size; omega) (HB.out.alloc HB.out.size _)).mono ?_
            rintro e w5 ⟨rfl, hm5, hS5⟩
            have hzb : w.heap.size ≤ wt.heap.size := HB.out.size
            have HL5 : Hid (IsLn w5 pk 0 0 s nl) := hid ((Blk.alloc (HLN.out.mod (Mod.below' (S := fun _ => False) HB.out) (fun x => x)) _).mod hm5 (by show ¬ pk < base; omega))
            have HK5 : Hid (Blk w5 wt.heap.size 284 #[.bool true, .slice none 0 0, .nilFunc]) := hid (Blk.mod (w := World.alloc wt (.cells #[.bool true, .slice none 0 0, .nilFunc] 284)) (Blk.new' rfl) hm5 (by show ¬ wt.heap.size < base; omega))
            have HM5 : Hid (Mod (fun j => j < base ∨ w.heap.size ≤ j) w w5) := hid ((Mod.below ((HB.out.alloc HB.out.size (.cells #[.bool true, .slice none 0 0, .nilFunc] 284))) (fun k _ h => .inr h)).trans hm5 (fun k _ h => .inl h))
            have HS5 := hid hS5
            have hz5 : wt.heap.size + 1 ≤ w5.heap.size := by have := hm5.size; simp at this; omega
            have hB5 : B ≤ w5.heap.size := by omega
            clear hm5 hS5
            have p1 : w5.cell? ⟨wt.heap.size, 1, none⟩ = some (.slice none 0 0) := HK5.out.at_ 1 rfl
            have fp := HK5.out.free
            have p2 : ∀ k o, ((w5.drewN k).alloc o).cell? ⟨wt.heap.size, 1, none⟩ = some (.slice none 0 0) := fun k o => (Blk.alloc (w := w5.drewN k) HK5.out o).at_ 1 rfl
            go_wp2_with fail
            go_region_law (first
                | (go_simp; go_at_call 126; refine (string_any pk 0 0 nl s _ ?_ (by omega) (Nat.zero_le _)).mono ?_; (· exact HL5.out); rintro e w6 ⟨rfl, n6, rfl⟩)
                | (refine step_append_lies _ rfl (.tmp 225) (.tmp 228) 33 (by rfl) B 9 is0 _ 1 16 Tryz.underlying33 his hsz0 hsz1 hsz2 rfl (by decide) (.slice none 0 0) 0 [] (by rfl) (World.ownsRow_nil _ _ _ _) ⟨w5.heap.size, 0, none⟩ 1 1 [.string s] (by rfl) rfl (World.news_of_block (heap_alloc_new _ _)) (by intro v hv; simp at hv; subst hv; rfl) (by omega) (by unfold maxLen; omega) (by omega) (by simp; omega) (w5.heap.size + 1) (by simp) ?_
                   intro g2 cap2 w7 hown7 hgr7 hat7 hlt7
                   have hp7 : Blk w7 wt.heap.size 284 #[.bool true, .slice none 0 0, .nilFunc] := Blk.grown (Blk.alloc (w := World.drewN w5 _) HK5.out _) hgr7 (by simp [Value.ownBlock])
                   have q7 : w7.cell? ⟨wt.heap.size, 1, none⟩ = some (.slice none 0 0) := hp7.at_ 1 rfl
                   have fq := hp7.free))
            all_goals
              have HK7 := hid (show Blk (w7.setCell ⟨wt.heap.size, 1, none⟩ (.slice (some ⟨g2, 0, none⟩) 1 cap2)) wt.heap.size 284 #[.bool true, .slice (some ⟨g2, 0, none⟩) 1 cap2, .nilFunc] from by simpa using Blk.set_ hp7 1 (.slice (some ⟨g2, 0, none⟩) 1 cap2))
              have HO7 : Hid (World.ownsRow (w7.setCell ⟨wt.heap.size, 1, none⟩ (.slice (some ⟨g2, 0, none⟩) 1 cap2)) B 9 1 (.slice (some ⟨g2, 0, none⟩) 1 cap2) 1 [.string s]) := hid (by
                exact own_far hown7 (p := ⟨wt.heap.size, 1, none⟩) (own_ne hown7 hp7 (by decide)) _)
              have HM7 : Hid (Mod (fun j => j = wt.heap.size) w5 (w7.setCell ⟨wt.heap.size, 1, none⟩ (.slice (some ⟨g2, 0, none⟩) 1 cap2))) := hid ((Mod.grown ((Mod.drewN (Mod.refl (fun j => j = wt.heap.size) w5) _).alloc _) hgr7 (fun k hk => by simp [Value.ownBlock] at hk)).setCell (p := ⟨wt.heap.size, 1, none⟩) (.inl rfl) _)
              clear hown7 hgr7 hat7 hlt7 hp7 q7 fq p1 p2 fp
              generalize World.setCell w7 ⟨wt.heap.size, 1, none⟩ _ = wc at HK7 HO7 HM7 ⊢
              go_wp2_with fail
              simp only [Exit.jump]
              go_ret
              exact ⟨rfl, wt.heap.size, ⟨some ⟨g2, 0, none⟩, 1, cap2⟩, .nilFunc, w5, HS5.out, hzb, ⟨HK7.out, HO7.out, by omega, rfl⟩, rfl, HM7.out, HM5.out, _, HK5.out⟩
  · intro a' w1 h
    exact h.elim
end Go.Proofs.YtmmijmhdbpldpaaGreatDoor
/- A line's end within a paragraph: how it is read, and what it prints. -/

namespace Go.Proofs.YtmmijmhdbpldpaaGreatDoor
open Go.RowKit
set_option maxRecDepth 20000 in
set_option maxHeartbeats 1600000 in
theorem parseBreak_soft (p : Value) (s : ByteArray) (i : Nat) (w : World) (hi0 : 0 < i) (hi : i + 1 < s.size) (hs : s.size ≤ 10000) (h1 : bt s (i - 1) ≠ 32) (h2 : bt s (i - 1) ≠ 9) (h3 : bt s (i + 1) ≠ 32) (h4 : bt s (i + 1) ≠ 9) :
    Calls Tryz.prog 74 #[p, .string s, .int .i64 i] w fun e w' => ∃ v, e = .returned (.tuple #[v, .int .i64 i, .int .i64 ((i + 1 : Nat) : Int), .bool true]) ∧ IsItem w' w.heap.size v softK ∧ Below w.heap.size w w' := by
  obtain ⟨m, rfl⟩ : ∃ m, i = m + 1 := ⟨i - 1, by omega⟩
  rw [show m + 1 - 1 = m from rfl] at h1 h2
  have hb := get_bt s
  have e1 : (bt s m == 32) = false := by simpa using h1
  have e2 : (bt s m == 9) = false := by simpa using h2
  have e3 : (bt s (m + 1 + 1) == 32) = false := by simpa using h3
  have e4 : (bt s (m + 1 + 1) == 9) = false := by simpa using h4
  clear h1 h2 h3 h4
  have hm : m < s.size := by omega
  go_enter Tryz.func74, Tryz.ntmps74
  go_wp2_with fail
  refine wp_loop_rounds 1 ?_
  rw [rounds_succ]
  go_wp2_with fail
  refine wp_loop_rounds 1 ?_
  rw [rounds_succ]
  go_wp2_with fail
  all_goals
    refine bodyPost_ret (by simp [results, Tryz.results74, go_sem]; try rfl) rfl ?_
    exact ⟨_, by rfl, ⟨_, rfl, Blk.new' rfl, Nat.le_refl _⟩, (Below.refl _ _).alloc (Nat.le_refl _) _⟩
theorem softHTML_any (B b pb : Nat) (bs : List UInt8) (w : World) (hbuf : IsBuf B b bs w) (hB : B ≤ w.heap.size) (hl : bs.length ≤ 1000000) :
    Calls Tryz.prog 302 #[.pointer (some ⟨pb, 0, none⟩), .pointer (some ⟨b, 0, none⟩)] w (PrintP B b bs [10] w) := by
  have HB := hid hbuf
  clear hbuf
  go_enter Tryz.func302, Tryz.ntmps302
  go_wp2_with fail
  refine (write_str B b bs ⟨#[10]⟩ w HB.out hB (by show bs.length + 1 ≤ 2000000; omega)).mono ?_
  rintro e w6 ⟨rfl, hi6, hb6, hk6⟩
  go_wp2_with fail
  go_end0
  exact ⟨rfl, hi6, hb6, hk6⟩
theorem soft_kprints : KPrints softK [10] := by
  rintro w B0 b bs v ⟨pb, rfl, hblk, _⟩ hb
  refine ⟨_, _, 302, .pointer (some ⟨pb, 0, none⟩), rfl, fun W => by kernel_rfl, Go.Proofs.enters_of Tryz.func302 (by kernel_rfl) rfl, fun B W hk hbf hB hlen => ?_⟩
  exact softHTML_any B b pb bs W hbf hB (by omega)
theorem tagHTML_any (B b pb : Nat) (q bs : List UInt8) (w : World) (hblk : Blk w pb 287 #[.string ⟨q.toArray⟩]) (hbuf : IsBuf B b bs w) (hB : B ≤ w.heap.size) (hq : q.length ≤ 1000) (hl : bs.length ≤ 1000000) :
    Calls Tryz.prog 344 #[.pointer (some ⟨pb, 0, none⟩), .pointer (some ⟨b, 0, none⟩)] w (PrintP B b bs q w) := by
  have HB := hid hbuf
  have c0 := hblk.at_ 0 rfl
  clear hbuf
  go_enter Tryz.func344, Tryz.ntmps344
  go_wp2_with fail
  refine (write_str B b bs ⟨q.toArray⟩ w HB.out hB (by rw [sz_mk]; omega)).mono ?_
  rintro e w6 ⟨rfl, hi6, hb6, hk6⟩
  go_wp2_with fail
  go_end0
  exact ⟨rfl, hi6, hb6, hk6⟩
theorem tag_kprints (q : List UInt8) (hq : q.length ≤ 1000) : KPrints (tagK q) q := by
  rintro w B0 b bs v ⟨pb, rfl, hblk, _⟩ hb
  refine ⟨_, _, 344, .pointer (some ⟨pb, 0, none⟩), rfl, fun W => by kernel_rfl, Go.Proofs.enters_of Tryz.func344 (by kernel_rfl) rfl, fun B W hk hbf hB hlen => ?_⟩
  have hblk' : Blk W pb 287 #[.string ⟨q.toArray⟩] := hblk.kept hk (by have := hblk.lt; omega) (by decide : (287 : Nat) ≠ 5)
  exact tagHTML_any B b pb q bs W hblk' hbf hB hq (by omega)
end Go.Proofs.YtmmijmhdbpldpaaGreatDoor
