/- PROVED: up to 60 nested pairs of square brackets around a word, the outermost with a destination behind them, are one link, or one image, whose text has the other brackets in it (the law FnBalanced returns true). -/
import Derived.Test.YtmmijmhdbpldpaaGreatDoorCBal08
import Derived.Test.YtmmijmhdbpldpaaGreatDoorCBal12
import Derived.Shelf.Strings.Repeat
import Derived.Ground.NamesProg
import Derived.Test.YtmmijmhdbpldpaaGreatDoorProg
import Derived.Test.YtmmijmhdbpldpaaGreatDoorCBal01
import Derived.Test.YtmmijmhdbpldpaaGreatDoorCards
import Derived.Test.YtmmijmhdbpldpaaGreatDoorTie
import Derived.Stop.LaidErr
import Derived.ChangeMaps5
/- A text of one line that is a paragraph: its HTML, where its inline text is read with no definition known and the corner not yet told. -/

namespace Go.Proofs.YtmmijmhdbpldpaaGreatDoor
open Go.RowKit
/-- As InlC, where no definitions are known, and no corner has been met. -/
def InlC1 (o : Opt) (s out : List UInt8) : Prop :=
  ∀ (g : Nat) (r : PSr) (w : World), IsPS w g r → Blk w r.parser 77 o.parser → r.parser ≠ g → r.back.length = 81 → r.links = none → r.corner = false → Calls Tryz.prog 56 #[.pointer (some ⟨g, 0, none⟩), .string ⟨s.toArray⟩] w (InlPost g r out w)
def ParFin1 (pb g : Nat) (w0 : World) (o : Opt) (s out : List UInt8) (ta : Option Addr) (k : Nat) (w : World) : Prop :=
  Below g w0 w ∧ Blk w pb 77 o.parser ∧ ∃ (r : PSr) (d kb tb ab : Nat) (v1 : Sl) (tc : Nat) (lk : Option Nat), IsPS w g r ∧ r.parser = pb ∧ r.root = some ⟨d, 0, none⟩ ∧ ta = some ⟨ab, 0, none⟩ ∧ r.texts = ⟨ta, 1, tc⟩ ∧ w.ownsRow (g + 1) 105 1 r.texts.v 1 [.pointer (some ⟨tb, 0, none⟩)] ∧
    Blk w d 339 #[.int .i64 0, .int .i64 0, v1.v, .map lk] ∧ v1.n = 1 ∧ w.ownsRow (g + 1) 69 1 v1.v 1 [parV kb] ∧ g < tb ∧
    ((k = 0 ∧ r.back.length = 81 ∧ r.links = none ∧ r.corner = false ∧ ∃ (sl el sl2 el2 : Int), Blk w kb 155 #[.int .i64 sl, .int .i64 el, .pointer (some ⟨tb, 0, none⟩)] ∧ Blk w tb 110 #[.int .i64 sl2, .int .i64 el2, .slice none 0 0, .string ⟨s.toArray⟩]) ∨
     (k = 1 ∧ IsPar w (g + 1) kb tb out))
set_option maxRecDepth 20000 in
theorem parH1 (pb g : Nat) (w0 : World) (o : Opt) (s out : List UInt8) (hs : ParLine ⟨s.toArray⟩) (hno : 10 ∉ s ∧ 13 ∉ s) (href : RefNo s) (hpb : pb < g) (hi : InlC1 o s out) (ht : o.tasks = false) : ParseH2 pb g 1 (ParInv pb g w0 o s) (ParFin1 pb g w0 o s out) s.length where
  line := by
    intro l n w ⟨hb, hpar, st, a, h⟩ hne hll
    rcases h with ⟨rfl, rfl, hps, hst⟩ | ⟨_, _, h, _⟩
    · have hsz := hs.size
      have hsl : l.length ≤ 100000 := by rw [sz_mk] at hsz; exact hsz
      have hg := hps.lt
      refine ⟨⟨_, hps, rfl⟩, by omega, ?_⟩
      have hnl : nextLine l = (l, 0, []) := by
        unfold nextLine
        rw [idxB_not _ _ hno.2, idxB_not _ _ hno.1]
        rfl
      rw [hnl]
      have hne2 : some g ≠ st.v.ownBlock := own_ne hst.2 hps (by decide)
      have hpar3 := hpar.far (p := ⟨g, 3, none⟩) (Blk.ne_ hpar hps (by decide)) (.int .i64 ((0 : Nat) + 1))
      refine (addLine_par0 (g + 1) g { ps0 pb with lineno := 1, stack := st } a Sl.nil o.tables 0 ⟨l.toArray⟩ _ (Nat.lt_succ_self _) (by simp; exact hg) (hps.set3 _) (hst.far (p := ⟨g, 3, none⟩) hne2 _) hs hpb (hpar3.at_ 5 rfl)).mono ?_
      rintro e w' ⟨rfl, st2, qb, v, h1, h2, h3, h4, hm⟩
      refine ⟨rfl, ?_, ?_, st2, a, .inr ⟨qb, v, rfl, rfl, h1, h2, h3, h4⟩⟩
      · exact (hb.setCell (p := ⟨g, 3, none⟩) (Nat.le_refl _) _).trans (hm.toBelow (B := g) (by simp; exact Nat.le_of_lt hg) (fun k hk e => by omega))
      · exact hpar3.mod hm (by omega)
    · exact absurd h hne
  drew := by
    intro l n w k ⟨hb, hpar, st, a, h⟩
    refine ⟨below_drewN hb k, hpar.drewN k, st, a, ?_⟩
    rcases h with ⟨h1, h2, hps, hst⟩ | ⟨qb, v, h1, h2, hps, hst, ⟨q1, q2, q3⟩, h4⟩
    · exact .inl ⟨h1, h2, hps.drewN k, hst.drewN k⟩
    · exact .inr ⟨qb, v, h1, h2, hps.drewN k, hst.drewN k, ⟨q1.drewN k, World.ownsRow.drewN q2 k, q3⟩, h4⟩
  trim := by
    intro n w ⟨hb, hpar, st, a, h⟩
    rcases h with ⟨h1, _, _, _⟩ | ⟨qb, v, h1, h2, hps, hst, hp, h4⟩
    · exfalso
      have := hs.pos
      subst h1
      simp [ByteArray.size] at this
    · have hg := hps.lt
      have hsz := hs.size
      have hpo := hs.pos
      have hj : joinT [⟨s.toArray⟩] = s := by unfold joinT; rw [List.map_cons, List.map_nil, Lib.join_cons]; simp [Lib.joinTail]
      have hH : ParaHead (joinT [⟨s.toArray⟩]) := by
        rw [hj]
        rw [sz_mk] at hpo hsz
        exact ⟨hpo, by omega, href⟩
      refine (trim_leaf0 (g + 1) g _ a Sl.nil 0 0 (parE qb 1 1) [] 153 _ w hps hst (closePara_any (g + 1) g qb _ (rootF a Sl.nil) [] v [⟨s.toArray⟩] [] 1 1 w hg hps hst (World.ownsRow_nil _ _ _ _) (by show 0 ≤ 1000000; omega) hp h4 (World.ownsRow_nil _ _ _ _) (by show 0 ≤ 1000000; omega) (by omega) (by simp) (by simp) hH)).mono ?_
      rintro e w' ⟨rfl, r', kb, w1, v1, st2, d, ⟨tb, l, rfl, q1, q2, q3, q4, q5, q6, q7⟩, hd, hps2, hv1, hrow, hdoc, hm⟩
      rw [hj] at q4
      have hbel : Below g w w' := (q7.toBelow (B := g) (Nat.le_of_lt hg) (fun k hk e => by
          rcases e with e | e
          · omega
          · cases e)).trans (hm.toBelow (B := g) (Nat.le_trans (Nat.le_of_lt hg) q7.size) (fun k hk e => by
          rcases e with e | e | e
          · omega
          · have := ownBase hst.2 e; omega
          · cases e))
      obtain ⟨la, ln, lc⟩ := l
      obtain rfl : ln = 1 := q6
      have hst1 := hst.mod q7 (fun k hk e => by
        rcases e with e | e
        · subst e; exact own_ne hst.2 hps (by decide) hk.symm
        · cases e)
      have h5 : w1.ownsRow (g + 1) 105 1 (.slice la 1 lc) 1 [.pointer (some ⟨tb, 0, none⟩)] := q5
      have hrowt : w'.ownsRow (g + 1) 105 1 (.slice la 1 lc) 1 [.pointer (some ⟨tb, 0, none⟩)] := by
        refine own_mod h5 hm (fun q hq e => ?_)
        rcases e with e | e | e
        · have := ownBase h5 hq.symm; omega
        · exact ownApart h5 hst1.2 (by decide) hq e.symm
        · cases e
      obtain ⟨ab, cs, hab, _⟩ := row_blk hrowt (Nat.succ_pos 0)
      have hv1' : v1.n = 1 := hv1
      rw [hv1'] at hrow
      have kp := q3.mod hm (fun e => by
        rcases e with e | e | e
        · omega
        · exact own_ne hst1.2 q3 (by decide) e
        · cases e)
      have kt := q4.mod hm (fun e => by
        rcases e with e | e | e
        · omega
        · exact own_ne hst1.2 q4 (by decide) e
        · cases e)
      exact ⟨rfl, la, hb.trans hbel, hpar.mod (Mod.below hbel (S := fun k => g ≤ k) (fun k _ h => h)) (by omega), _, d, kb, tb, ab, v1, lc, _, hps2, rfl, rfl, hab, rfl, hrowt, hdoc, hv1', hrow, by omega, .inl ⟨rfl, rfl, rfl, rfl, _, _, _, _, kp, kt⟩⟩
  at_ := by
    intro ta k w ⟨hb, hpar, r, d, kb, tb, ab, v1, tc, lk, hps, hrp, hroot, hta, htx, _⟩
    exact ⟨by omega, r, tc, hps, htx, parser_no2 o hpar ht⟩
  text := by
    intro ta k w ⟨hb, hpar, r, d, kb, tb, ab, v1, tc, lk, hps, hrp, hroot, hta, htx, hrt, hdoc, hv1, hrow, hgt, hk⟩ hk1
    rcases hk with ⟨rfl, hbk, hlk, hco, sl, el, sl2, el2, hkp, hkt⟩ | ⟨rfl, _⟩
    · subst hta
      have hrt2 := hrt
      rw [htx] at hrt2
      obtain ⟨ab', cs, hab, hblk, _, _, _, hcl, _⟩ := row_blk hrt2 (Nat.succ_pos 0)
      simp only [Option.some.injEq, Addr.mk.injEq] at hab
      obtain ⟨rfl, _⟩ := hab
      have hgl := hps.lt
      have hrg : r.parser ≠ g := by rw [hrp]; omega
      refine ⟨ab, 0, tb, ⟨s.toArray⟩, rfl, hblk.at_ 0 (hcl 0 (by omega)), hkt.at_ 3 rfl, (hi g r w hps (by rw [hrp]; exact hpar) hrg hbk hlk hco).mono ?_⟩
      rintro e w' ⟨l, vs, outs, c, em, s2, bk, rfl, hps', hrl, hn, hits, hout, hm⟩
      have hkt' := hkt.mod hm (by omega)
      refine ⟨l.a, l.n, l.c, rfl, ⟨_, hkt'.at_ 2 rfl⟩, hkt'.free 2, ?_⟩
      have htg : tb ≠ g := by omega
      have hm2 : Mod (fun k => k = tb) w' (w'.setCell ⟨tb, 2, none⟩ (.slice l.a l.n l.c)) := (Mod.refl (fun k => k = tb) w').setCell (p := ⟨tb, 2, none⟩) (.inl rfl) _
      have hm3 := (hm.mono (S' := fun k => k = g ∨ k = tb) (fun _ _ h => .inl h)).trans hm2 (fun _ _ h => .inr h)
      have hg1 : g + 1 ≤ w.heap.size := hgl
      refine ⟨hb.trans (hm3.toBelow (B := g) (Nat.le_of_lt hgl) (fun k hk e => by omega)), hpar.mod hm3 (by omega), _, d, kb, tb, ab, v1, tc, lk, hps'.far (p := ⟨tb, 2, none⟩) (fun e => htg e.symm) _, hrp, hroot, rfl, htx, ?_, ?_, hv1, ?_, hgt, .inr ⟨rfl, sl, el, sl2, el2, .string ⟨s.toArray⟩, l, vs, outs, ?_, ?_, ?_, hn, ?_, hout⟩⟩
      · exact own_mod hrt hm3 (fun q hq e => by
          rcases e with e | e
          · have := ownBase hrt hq.symm; omega
          · subst e; exact own_ne hrt hkt (by decide) hq.symm)
      · exact hdoc.mod hm3 (fun e => by
          rcases e with e | e
          · exact Blk.ne_ hdoc hps (by decide) e
          · exact Blk.ne_ hdoc hkt (by decide) e)
      · exact own_mod hrow hm3 (fun q hq e => by
          rcases e with e | e
          · have := ownBase hrow hq.symm; omega
          · subst e; exact own_ne hrow hkt (by decide) hq.symm)
      · exact hkp.mod hm3 (fun e => by
          rcases e with e | e
          · exact Blk.ne_ hkp hps (by decide) e
          · exact Blk.ne_ hkp hkt (by decide) e)
      · exact hkt'.set_ 2 _
      · exact own_base (own_far hrl (p := ⟨tb, 2, none⟩) (own_ne hrl hkt' (by decide)) _) hg1
      · exact (hits.mod hm2 (fun k ty cs hbk _ _ ht e => by subst e; exact Blk.ne_ hbk hkt' ht rfl)).base hg1
    · omega
set_option maxRecDepth 20000 in
theorem HTML_par1 (o : Opt) (s out : List UInt8) (w : World) (hs : ParLine ⟨s.toArray⟩) (hno : 10 ∉ s ∧ 13 ∉ s ∧ 0 ∉ s) (href : RefNo s) (hi : InlC1 o s out) (ht : o.tasks = false) (hol : out.length ≤ 900000) :
    Calls Tryz.prog 11 #[o.v, .string ⟨s.toArray⟩] w fun e w' => e = .returned (.string ⟨(paraOut out).toArray⟩) ∧ Below w.heap.size w w' := by
  refine HTML_gen2 o _ w (paraOut out) (fun pb w1 hbw hblkp => ?_)
  have hsz := hs.size
  have hsl : s.length ≤ 100000 := by rw [sz_mk] at hsz; exact hsz
  have hpb : pb < w1.heap.size := hblkp.lt
  have hpo := paraOut_len out
  have hpar : Calls Tryz.prog 43 #[.pointer (some ⟨pb, 0, none⟩), .string ⟨s.toArray⟩] w1 fun e w' => ∃ d c, e = .returned (.tuple #[.pointer (some ⟨d, 0, none⟩), .bool c]) ∧ DocPrints w' d (paraOut out) ∧ Below w1.heap.size w1 w' := by
    refine (parse_gen2 pb _ w1 1 (ParInv pb w1.heap.size w1 o s) (ParFin1 pb w1.heap.size w1 o s out) (by omega) (idxB_not _ 0 hno.2.2) (parH1 pb w1.heap.size w1 o s out hs ⟨hno.1, hno.2.1⟩ href hpb hi ht) ?_).mono ?_
    · intro w' bn hps hb
      refine (addBlock_top (w1.heap.size + 1) w1.heap.size (ps0 pb) [] w' 98 (.pointer (some ⟨bn, 0, none⟩)) hps.lt hps ⟨rfl, World.ownsRow_nil _ _ _ _⟩ rfl (by simp)).mono ?_
      rintro e w2 ⟨rfl, v, hps1, hst, _, hm⟩
      refine ⟨rfl, ?_, ?_, v, some ⟨bn, 0, none⟩, .inl ⟨rfl, rfl, hps1, hst⟩⟩
      · exact hb.trans (hm.toBelow (B := w1.heap.size) hb.size (fun k hk e => by
          rcases e with e | e
          · omega
          · simp [ps0, Sl.nil, Value.ownBlock] at e))
      · refine (hblkp.mod (S := fun _ => False) (Mod.below' hb) (fun x => x)).mod hm (fun e => ?_)
        rcases e with e | e
        · omega
        · simp [ps0, Sl.nil, Value.ownBlock] at e
    · rintro e w' ⟨ta, r, k, rfl, hps, w0, ⟨hb, _, r0, d, kb, tb, ab, v1, tc, lk, hps0, _, hroot, _, _, _, hdoc, hv1, hrow, _, hk⟩, rfl⟩
      have h1 := hps.c1
      have h2 := hps0.c1
      rw [show (w0.drewN k).cell? ⟨w1.heap.size, 1, none⟩ = w0.cell? ⟨w1.heap.size, 1, none⟩ from rfl, h2, hroot] at h1
      simp only [Option.some.injEq, Value.pointer.injEq] at h1
      rw [← h1]
      rcases hk with ⟨h, _⟩ | ⟨_, hpar⟩
      · omega
      · refine ⟨d, _, rfl, ⟨0, 0, v1, lk, w1.heap.size + 1, [parV kb], [paraOut out], hdoc, ?_, by omega, by simp, by omega, rfl, ?_⟩, below_drewN hb k⟩
        · rw [hv1]; exact World.ownsRow.drewN hrow k
        · intro b i y x hbz hy hx
          cases i with
          | zero =>
            simp at hy hx
            subst hy hx
            exact par_prints _ (w1.heap.size + 1) b kb tb _ out hbz (hpar.drewN k)
          | succ i => simp at hy
  go_enter Tryz.func29, Tryz.ntmps29
  go_wp2_with (go_at_call 43; refine hpar.mono ?_; rintro e w1 ⟨d, c, rfl, hd, hb⟩)
  go_ret
  exact ⟨d, rfl, hd, hb⟩
end Go.Proofs.YtmmijmhdbpldpaaGreatDoor
/- FnBalanced: the link's or the image's document. -/




namespace Go.Proofs.YtmmijmhdbpldpaaGreatDoor
open Go.RowKit
variable {img : Bool} {a d : List UInt8} {n : Nat}
/-- The text within the brackets. -/
def balW (a : List UInt8) (n : Nat) : List UInt8 := List.replicate (n - 1) 91 ++ a ++ List.replicate (n - 1) 93
def balO (img : Bool) (a d : List UInt8) (n : Nat) : List UInt8 := if img then imOut d (balW a n) else lkOut d (balW a n)
theorem esc_bcs {l : List UInt8} (h : ∀ c ∈ l, c ∈ bcs) : esc l = l := by
  have key : ∀ c ∈ bcs, esc [c] = [c] := by unfold bcs; decide
  induction l with
  | nil => rfl
  | cons c l ih =>
    have h1 := key c (h c (List.mem_cons_self ..))
    have h2 := ih (fun x hx => h x (List.mem_cons_of_mem _ hx))
    have h3 : esc (c :: l) = esc [c] ++ esc l := by unfold esc; simp
    rw [h3, h1, h2]
    rfl
theorem balW_mem (H : BalL a d n) {c : UInt8} (hc : c ∈ balW a n) : c ∈ bcs := by
  unfold balW at hc
  simp only [List.mem_append, List.mem_replicate] at hc
  rcases hc with (⟨_, rfl⟩ | h) | ⟨_, rfl⟩
  · decide
  · have := H.a.chr c h
    revert this
    exact (by decide : ∀ c ∈ wcs, c ∈ bcs) c
  · decide
theorem balW_len (H : BalL a d n) : (balW a n).length ≤ 200 := by
  have := H.a.len; have := H.n2
  unfold balW
  simp only [List.length_append, List.length_replicate]
  omega
set_option maxRecDepth 100000 in
theorem dcs_plain : ∀ c ∈ dcs, Plainly (c.toNat : Int) := by unfold dcs Plainly linkFirst; decide
theorem dest_plain (H : BalL a d n) : ∀ i, i < (ByteArray.mk d.toArray).size → Plainly (bt ⟨d.toArray⟩ i) := fun i hi => by
  rw [sz_mk] at hi
  rw [bt_some (List.getElem?_eq_getElem hi)]
  exact dcs_plain _ (H.d.chr _ (List.getElem_mem hi))
/-- The link's parts, each by what it prints. -/
def balOuts (a : List UInt8) (n : Nat) : List (List UInt8) := (List.range (n - 1)).map (fun _ => esc [91]) ++ [esc (a ++ List.replicate (n - 1) 93)]
theorem balOuts_flat (H : BalL a d n) : (balOuts a n).flatten = balW a n := by
  unfold balOuts balW
  rw [List.flatten_append, List.flatten_cons, List.flatten_nil, List.append_nil, List.append_assoc]
  congr 1
  · rw [show esc [91] = [91] from by decide]
    generalize n - 1 = k
    induction k with
    | zero => rfl
    | succ k ih => rw [List.range_succ, List.map_append, List.flatten_append, ih, List.replicate_succ']; rfl
  · exact esc_bcs (fun c hc => balW_mem H (c := c) (by unfold balW; rw [List.append_assoc]; exact List.mem_append_right _ hc))
theorem bal_kinds (H : BalL a d n) (p : Nat) : ∀ (i : Nat) k o, ((List.range (n - 1)).map (fun k => plusK [91] (p + k + 2)) ++ [plainK (a ++ List.replicate (n - 1) 93)])[i]? = some k → (balOuts a n)[i]? = some o → k.Ok ∧ KPrints k o ∧ KPrintsT k o := by
  intro i k o hk ho
  have hl : (a ++ List.replicate (n - 1) 93).length ≤ 100000 := by
    have := H.a.len; have := H.n2
    simp only [List.length_append, List.length_replicate]; omega
  unfold balOuts at ho
  rcases Nat.lt_or_ge i (n - 1) with h | h
  · rw [List.getElem?_append_left (by simpa using h), List.getElem?_map, List.getElem?_range h] at hk ho
    simp only [Option.map_some, Option.some.injEq] at hk ho
    subst hk ho
    exact ⟨plusK_ok _ _, plus_kprints _ _ (by simp), plus_kprintsT _ _ (by simp)⟩
  · rw [List.getElem?_append_right (by simpa using h)] at hk ho
    simp only [List.length_map, List.length_range] at hk ho
    cases hq : i - (n - 1) with
    | zero =>
      rw [hq] at hk ho
      simp only [List.getElem?_cons_zero, Option.some.injEq] at hk ho
      subst hk ho
      exact ⟨plainK_ok _, plain_kprints _ hl, plain_kprintsT _ hl⟩
    | succ q => rw [hq] at hk; simp at hk
theorem bal_hfin (H : BalL a d n) (B : Nat) (im : Bool) (u : ByteArray) (iks : List Kind) (hF : balF img a d n im u iks) (W : World) (b base : Nat) (dd : Sl) (lc : Bool) (ys : List Value) (hl : IsLinkG W b base dd u lc ys) (h1 : B ≤ b) (h2 : B ≤ base) (hits : IsItems W B ys iks) (hn : dd.n = iks.length) (h0 : 0 < dd.n) : ItemS B W (lkiV im b) (balO img a d n) := by
  obtain ⟨rfl, rfl, rfl⟩ := hF
  have hnl : dd.n ≤ 1000000 := by
    rw [hn]
    have := H.n2
    simp only [List.length_append, List.length_map, List.length_range, List.length_cons, List.length_nil]
    omega
  have hdl := H.d.len
  have hK := bal_kinds H (bp im)
  have hfl := balOuts_flat H
  have hol : (balOuts a n).length = ys.length := by
    rw [hits.1]
    unfold balOuts
    simp only [List.length_append, List.length_map, List.length_range, List.length_cons, List.length_nil]
  unfold balO
  rw [← hfl]
  cases im with
  | false =>
    rw [if_neg (by decide)]
    have := link_itemG (outs := balOuts a n) hl h1 h2 hnl h0 ⟨hol, fun i v x hv hx => by
      have hi : i < ((List.range (n - 1)).map (fun k => plusK [91] (bp false + k + 2)) ++ [plainK (a ++ List.replicate (n - 1) 93)]).length := by rw [← hits.1]; exact (List.getElem?_eq_some_iff.1 hv).1
      have hk := List.getElem?_eq_getElem hi
      obtain ⟨k1, k2, _⟩ := hK i _ x hk hx
      exact ItemS.of (hits.2 i v _ hv hk) k1 k2⟩ (by rw [sz_mk]; omega) (dest_plain H)
    rw [show (ByteArray.mk d.toArray).data.toList = d from by simp] at this
    exact this
  | true =>
    rw [if_pos rfl]
    have := img_itemG (outs := balOuts a n) hl h1 h2 hnl h0 hits hol (fun i k x hk hx => by
      obtain ⟨k1, _, k3⟩ := hK i k x hk hx
      exact ⟨k1, k3⟩) (by rw [sz_mk]; omega) (dest_plain H) (by
      rw [hfl]
      intro c hc
      have := balW_mem H hc
      revert this
      exact (by decide : ∀ c ∈ bcs, c ≠ 10) c) (by rw [hfl]; have := balW_len H; omega)
    rw [show (ByteArray.mk d.toArray).data.toList = d from by simp] at this
    exact this
theorem bal_trim (H : BalL a d n) : trimR (trimL (balT img a d n)) = balT img a d n := by
  have key : ∀ c ∈ balT img a d n, c ≠ 32 ∧ c ≠ 9 := fun c hc => by
    have := balT_mem H hc
    revert this
    exact (by decide : ∀ c ∈ bcs, c ≠ 32 ∧ c ≠ 9) c
  rw [trimL_self (fun c hc => key c (List.mem_of_getElem? hc))]
  rw [trimR_of _ (balT img a d n).length (Nat.le_refl _) (fun k c hk hc => by rw [List.getElem?_eq_none hk] at hc; cases hc) (fun i c _ hc => by
    have := key c (List.mem_of_getElem? hc)
    simp [isST, this.1, this.2]), List.take_length]
theorem inlC1_bal (H : BalL a d n) : InlC1 plainO (balT img a d n) (balO img a d n) := by
  intro g r w hps hpar hne _ hlk hco
  have hl := balT_sz (img := img) H
  exact inline_link plainO g r ⟨(balT img a d n).toArray⟩ ⟨(balT img a d n).toArray⟩ w (balJ img a n) (balF img a d n) hps hpar hne hco rfl _ (by rw [sz_mk]; omega) (by rw [bal_trim H]) (by rw [sz_mk]; omega) (balH img H g r w hlk) (fun im u iks hF => ⟨by
    obtain ⟨_, _, rfl⟩ := hF
    have := H.n2
    simp only [List.length_append, List.length_map, List.length_range, List.length_cons, List.length_nil]
    omega, fun W b base dd lc ys h1 h2 h3 h4 h5 h6 => bal_hfin H w.heap.size im u iks hF W b base dd lc ys h1 h2 h3 h4 h5 h6⟩)
theorem bal_line (H : BalL a d n) : ParLine ⟨(balT img a d n).toArray⟩ := by
  have hl := balT_sz (img := img) H
  have h1 := H.n1
  have hsz : (ByteArray.mk (balT img a d n).toArray).size ≤ 100000 := by rw [sz_mk]; omega
  have htab : ∀ k, bt ⟨(balT img a d n).toArray⟩ k ≠ 9 := fun k => bt_mem _ k (fun z => z ≠ 9) (by decide) (fun c hc => by
    have := balT_mem H hc
    revert this
    exact (by decide : ∀ c ∈ bcs, (c.toNat : Int) ≠ 9) c)
  have first : ∀ (P : Int → Prop), P 33 → P 91 → P (bt ⟨(balT img a d n).toArray⟩ 0) := fun P p1 p2 => by
    cases img with
    | true => rw [b33]; exact p1
    | false => rw [show (0 : Nat) = bp false + 0 from rfl, b91 (img := false) 0 (by omega)]; exact p2
  have h32 := first (fun z => z ≠ 32) (by decide) (by decide)
  refine { size := hsz, pos := by rw [sz_mk, balT_len]; omega, tab := htab, q := fun k hk => by rw [reach0 h32 hk]; exact first (fun z => z ≠ 62 ∧ z ≠ 35) (by decide) (by decide), h32 := h32, hr := first (fun z => z ≠ 42 ∧ z ≠ 45 ∧ z ≠ 95) (by decide) (by decide), lt_ := first (fun z => z ≠ 60) (by decide) (by decide), fence := first (fun z => z ≠ 126) (by decide) (by decide), tick := first (fun z => z ≠ 96) (by decide) (by decide), item := ?_ }
  intro g b nl w hw
  refine startListItem_no g b 0 0 nl _ w hw (by omega) (Nat.zero_le _) htab (fun k hk => ?_)
  rw [reach0 h32 hk]
  exact first NoItem (by unfold NoItem; decide) (by unfold NoItem; decide)
theorem bal_ref (H : BalL a d n) : RefNo (balT img a d n) := by
  have hl := balT_sz (img := img) H
  have hlen := balT_len (img := img) (a := a) (d := d) (n := n)
  have h1 := H.n1
  have h2 := H.a.pos
  have h3 := H.a.len
  cases img with
  | true =>
    refine refNo_plain _ (by omega) (by omega) (fun c hc => ?_)
    have e : balT true a d n = 33 :: (List.replicate n 91 ++ a ++ List.replicate n 93 ++ [40] ++ d ++ [41]) := by simp [balT_true]
    rw [e] at hc
    simp only [List.getElem?_cons_zero, Option.some.injEq] at hc
    subst hc
    decide
  | false =>
    rcases Nat.lt_or_ge 1 n with h4 | h4
    · exact refNo_nest _ (by omega) (by omega) (b91 (img := false) 0 (by omega)) (b91 (img := false) 1 h4)
    · obtain rfl : n = 1 := by omega
      simp only [bp, Bool.false_eq_true, if_false] at hlen
      refine refNo_word _ (a.length - 1) (by omega) (by omega) (by omega) (b91 (img := false) 0 (by omega)) (fun m hm1 hm2 => ?_) ?_ ?_
      · obtain ⟨c, hc, e⟩ := bwd (img := false) (a := a) (d := d) (n := 1) m (by show 0 + 1 ≤ m; omega) (by show m < 0 + 1 + a.length; omega)
        rw [e]
        exact wcs_ld c (H.a.chr c hc)
      · exact b93 (img := false) _ (by show 0 + 1 + a.length ≤ _; omega) (by show _ < 0 + 1 + a.length + 1; omega)
      · have e := b40 (img := false) (a := a) (d := d) (n := 1)
        rw [show bp false + 1 + a.length + 1 = 3 + (a.length - 1) from by show 0 + 1 + a.length + 1 = _; omega] at e
        rw [e]
        decide
theorem balO_len (H : BalL a d n) : (balO img a d n).length ≤ 1000 := by
  have h1 := balW_len H
  have h2 := H.d.len
  unfold balO
  cases img with
  | true => simp only [if_true, imOut, List.length_append, imHead_len, List.length_cons, List.length_nil]; omega
  | false => simp only [Bool.false_eq_true, if_false, lkOut, List.length_append, lkHead_len, List.length_cons, List.length_nil]; omega
theorem HTML_bal (s : ByteArray) (img : Bool) (a d : List UInt8) (n : Nat) (w : World) (hs : s = ⟨(balT img a d n).toArray⟩) (H : BalL a d n) :
    Calls Tryz.prog 11 #[.agg #[.bool false, .bool false, .bool false, .bool false, .bool false, .bool false, .bool false, .bool false, .bool false, .bool false], .string s] w fun e' w' => e' = .returned (.string ⟨(paraOut (balO img a d n)).toArray⟩) ∧ Below w.heap.size w w' := by
  subst hs
  have hl := balO_len (img := img) H
  have hno : ∀ c ∈ balT img a d n, c ≠ 10 ∧ c ≠ 13 ∧ c ≠ 0 := fun c hc => by
    have := balT_mem H hc
    revert this
    exact (by decide : ∀ c ∈ bcs, c ≠ 10 ∧ c ≠ 13 ∧ c ≠ 0) c
  exact HTML_par1 plainO (balT img a d n) _ w (bal_line H) ⟨fun h => (hno _ h).1 rfl, fun h => (hno _ h).2.1 rfl, fun h => (hno _ h).2.2 rfl⟩ (bal_ref H) (inlC1_bal H) rfl (by omega)
end Go.Proofs.YtmmijmhdbpldpaaGreatDoor
/- The library's contracts on strings.Repeat, laid at this program. -/



namespace Go.Proofs
open Go.Shelf
def Tryz.layRP_ren : Go.Shelf.Ren := ⟨fun | 105 => 12 | 212 => 30 | 99 => 31 | 165 => 32 | 166 => 33 | 170 => 34 | 169 => 35 | 263 => 44 | 264 => 45 | 206 => 46 | 240 => 47 | 241 => 48 | 276 => 58 | 277 => 59 | n => n, fun | 9 => 9 | 3 => 3 | 4 => 4 | 20 => 20 | 0 => 0 | 46 => 51 | 109 => 52 | 5 => 5 | 72 => 58 | 76 => 62 | 51 => 35 | 146 => 80 | 53 => 82 | 148 => 83 | 70 => 55 | 37 => 56 | 75 => 61 | 127 => 85 | 164 => 113 | 80 => 65 | n => n, fun | n => n⟩
theorem Tryz.layRP : Go.Proofs.Lays.n105 Tryz.prog Tryz.layRP_ren := {
  mixed := by kernel_rfl
  f99 := Tryz.func31.trans (congrArg some (by kernel_rfl))
  f105 := Tryz.func12.trans (congrArg some (by kernel_rfl))
  f165 := Tryz.func32.trans (congrArg some (by kernel_rfl))
  f166 := Tryz.func33.trans (congrArg some (by kernel_rfl))
  f169 := Tryz.func35.trans (congrArg some (by kernel_rfl))
  f170 := Tryz.func34.trans (congrArg some (by kernel_rfl))
  f206 := Tryz.func46.trans (congrArg some (by kernel_rfl))
  f212 := Tryz.func30.trans (congrArg some (by kernel_rfl))
  f240 := Tryz.func47.trans (congrArg some (by kernel_rfl))
  f241 := Tryz.func48.trans (congrArg some (by kernel_rfl))
  f263 := Tryz.func44.trans (congrArg some (by kernel_rfl))
  f264 := Tryz.func45.trans (congrArg some (by kernel_rfl))
  f276 := Tryz.func58.trans (congrArg some (by kernel_rfl))
  f277 := Tryz.func59.trans (congrArg some (by kernel_rfl))
  t0 := Tryz.underlying0
  a0 := Tryz.isAgg0
  z0 := Tryz.sizeOf0
  v0 := Tryz.zeroValue0
  t3 := Tryz.underlying3
  a3 := Tryz.isAgg3
  z3 := Tryz.sizeOf3
  v3 := Tryz.zeroValue3
  t4 := Tryz.underlying4
  a4 := Tryz.isAgg4
  z4 := Tryz.sizeOf4
  v4 := Tryz.zeroValue4
  t5 := Tryz.underlying5
  a5 := Tryz.isAgg5
  z5 := Tryz.sizeOf5
  v5 := Tryz.zeroValue5
  t9 := Tryz.underlying9
  a9 := Tryz.isAgg9
  z9 := Tryz.sizeOf9
  v9 := Tryz.zeroValue9
  t20 := Tryz.underlying20
  a20 := Tryz.isAgg20
  z20 := Tryz.sizeOf20
  v20 := Tryz.zeroValue20
  t37 := Tryz.underlying56
  a37 := Tryz.isAgg56
  z37 := Tryz.sizeOf56
  v37 := Tryz.zeroValue56
  t46 := Tryz.underlying51
  a46 := Tryz.isAgg51
  z46 := Tryz.sizeOf51
  v46 := Tryz.zeroValue51
  t51 := Tryz.underlying35
  a51 := Tryz.isAgg35
  z51 := Tryz.sizeOf35
  v51 := Tryz.zeroValue35
  t53 := Tryz.underlying82
  a53 := Tryz.isAgg82
  z53 := Tryz.sizeOf82
  v53 := Tryz.zeroValue82
  t70 := Tryz.underlying55
  a70 := Tryz.isAgg55
  z70 := Tryz.sizeOf55
  v70 := Tryz.zeroValue55
  t72 := Tryz.underlying58
  a72 := Tryz.isAgg58
  z72 := Tryz.sizeOf58
  v72 := Tryz.zeroValue58
  t75 := Tryz.underlying61
  a75 := Tryz.isAgg61
  z75 := Tryz.sizeOf61
  v75 := Tryz.zeroValue61
  t76 := Tryz.underlying62
  a76 := Tryz.isAgg62
  z76 := Tryz.sizeOf62
  v76 := Tryz.zeroValue62
  t109 := Tryz.underlying52
  a109 := Tryz.isAgg52
  z109 := Tryz.sizeOf52
  v109 := Tryz.zeroValue52
  t127 := Tryz.underlying85
  a127 := Tryz.isAgg85
  z127 := Tryz.sizeOf85
  v127 := Tryz.zeroValue85
  t146 := Tryz.underlying80
  a146 := Tryz.isAgg80
  z146 := Tryz.sizeOf80
  v146 := Tryz.zeroValue80
  t148 := Tryz.underlying83
  a148 := Tryz.isAgg83
  z148 := Tryz.sizeOf83
  v148 := Tryz.zeroValue83
  t164 := Tryz.underlying113
  a164 := Tryz.isAgg113
  z164 := Tryz.sizeOf113
  v164 := Tryz.zeroValue113 }
end Go.Proofs
/- strings.Repeat, whatever the count. -/


namespace Go.Proofs.YtmmijmhdbpldpaaGreatDoor
open Go.RowKit
theorem bldExtraR : Builder.Extra Tryz.prog Tryz.layRP_ren where
  sizeBuilder := by kernel_rfl
  liesBuilder := by kernel_rfl
  t5 := Tryz.underlying5
  a5 := Tryz.isAgg5
  z5 := Tryz.sizeOf5
  v5 := Tryz.zeroValue5
  infoByte := by kernel_rfl
  cellsByte := by kernel_rfl
  sizeByte := by kernel_rfl
  neB5 := by decide
theorem repeat_any (s : ByteArray) (c : Nat) (w : World) (hc : c ≤ 1000000) (hs : s.size ≤ 1000000) :
    Calls Tryz.prog 12 #[.string s, .int .i64 c] w fun e w' => e = .returned (.string ⟨(Lib.repeatL s.data.toList c).toArray⟩) ∧ Below w.heap.size w w' :=
  Any.strings_Repeat Tryz.layRP bldExtraR s c w (by omega) (Nat.le_trans (Nat.mul_le_mul hs hc) (by decide))
theorem repeatL_one1 (c : UInt8) (n : Nat) : Lib.repeatL [c] n = List.replicate n c := by
  induction n with
  | zero => rfl
  | succ n ih =>
    rw [Lib.repeatL_add [c] n 1, ih, Lib.repeatL_one, List.replicate_succ']
end Go.Proofs.YtmmijmhdbpldpaaGreatDoor
/- The walk of the law FnBalanced: for all words, destinations and counts it returns true. -/



namespace Go.Proofs.YtmmijmhdbpldpaaGreatDoor
open Go.RowKit
theorem repZ_any (c : UInt8) (m : Nat) (z : Int) (w : World) (hz : z = m) (hm : m ≤ 100) : Calls Tryz.prog 12 #[.string ⟨#[c]⟩, .int .i64 z] w fun e w' => e = .returned (.string (repF m c)) ∧ Below w.heap.size w w' := by
  subst hz
  refine (repeat_any ⟨#[c]⟩ m w (by omega) (by show 1 ≤ 1000000; omega)).mono ?_
  rintro e w' ⟨rfl, hb⟩
  refine ⟨?_, hb⟩
  rw [show (ByteArray.mk #[c]).data.toList = [c] from rfl, repeatL_one1]
  rfl
/-- The text between the outer brackets. -/
def balB (a : List UInt8) (m : Nat) : ByteArray := (repF m 91 ++ ByteArray.mk a.toArray) ++ repF m 93
theorem balB_is (a : List UInt8) (n : Nat) : balB a (n - 1) = ⟨(balW a n).toArray⟩ := by
  unfold balB balW repF
  simp only [cat_lists]
theorem bal_s (a d : List UInt8) (n : Nat) (h : 1 ≤ n) : (((ByteArray.mk #[91] ++ balB a (n - 1)) ++ ByteArray.mk #[93, 40]) ++ ByteArray.mk d.toArray) ++ ByteArray.mk #[41] = ⟨(balT false a d n).toArray⟩ := by
  obtain ⟨m, rfl⟩ : ∃ m, n = m + 1 := ⟨n - 1, by omega⟩
  rw [balB_is, show ByteArray.mk #[91] = ⟨[91].toArray⟩ from rfl, show ByteArray.mk #[93, 40] = ⟨[93, 40].toArray⟩ from rfl, show ByteArray.mk #[41] = ⟨[41].toArray⟩ from rfl]
  simp only [cat_lists]
  have e : List.replicate (m + 1) (93 : UInt8) = List.replicate m 93 ++ [93] := List.replicate_succ'
  have e2 : List.replicate (m + 1) (91 : UInt8) = 91 :: List.replicate m 91 := rfl
  unfold balW balT
  rw [e, e2]
  simp
theorem bal_si (a d : List UInt8) (n : Nat) (h : 1 ≤ n) : ByteArray.mk #[33] ++ ((((ByteArray.mk #[91] ++ balB a (n - 1)) ++ ByteArray.mk #[93, 40]) ++ ByteArray.mk d.toArray) ++ ByteArray.mk #[41]) = ⟨(balT true a d n).toArray⟩ := by
  rw [bal_s a d n h, show ByteArray.mk #[33] = ⟨[33].toArray⟩ from rfl, cat_lists]
  simp [balT, show bpL false = [] from rfl, show bpL true = [33] from rfl]
theorem bal_o (a d : List UInt8) (n : Nat) : ByteArray.mk (paraOut (balO false a d n)).toArray = (((ByteArray.mk #[60, 112, 62, 60, 97, 32, 104, 114, 101, 102, 61, 34] ++ ByteArray.mk d.toArray) ++ ByteArray.mk #[34, 62]) ++ balB a (n - 1)) ++ ByteArray.mk #[60, 47, 97, 62, 60, 47, 112, 62, 10] := by
  rw [balB_is, show ByteArray.mk #[60, 112, 62, 60, 97, 32, 104, 114, 101, 102, 61, 34] = ⟨[60, 112, 62, 60, 97, 32, 104, 114, 101, 102, 61, 34].toArray⟩ from rfl, show ByteArray.mk #[34, 62] = ⟨[34, 62].toArray⟩ from rfl, show ByteArray.mk #[60, 47, 97, 62, 60, 47, 112, 62, 10] = ⟨[60, 47, 97, 62, 60, 47, 112, 62, 10].toArray⟩ from rfl]
  simp only [cat_lists]
  simp [paraOut, balO, lkOut, lkHead]
theorem bal_oi (a d : List UInt8) (n : Nat) : ByteArray.mk (paraOut (balO true a d n)).toArray = (((ByteArray.mk #[60, 112, 62, 60, 105, 109, 103, 32, 115, 114, 99, 61, 34] ++ ByteArray.mk d.toArray) ++ ByteArray.mk #[34, 32, 97, 108, 116, 61, 34]) ++ balB a (n - 1)) ++ ByteArray.mk #[34, 32, 47, 62, 60, 47, 112, 62, 10] := by
  rw [balB_is, show ByteArray.mk #[60, 112, 62, 60, 105, 109, 103, 32, 115, 114, 99, 61, 34] = ⟨[60, 112, 62, 60, 105, 109, 103, 32, 115, 114, 99, 61, 34].toArray⟩ from rfl, show ByteArray.mk #[34, 32, 97, 108, 116, 61, 34] = ⟨[34, 32, 97, 108, 116, 61, 34].toArray⟩ from rfl, show ByteArray.mk #[34, 32, 47, 62, 60, 47, 112, 62, 10] = ⟨[34, 32, 47, 62, 60, 47, 112, 62, 10].toArray⟩ from rfl]
  simp only [cat_lists]
  simp [paraOut, balO, imOut, imHead]
set_option maxRecDepth 20000 in
set_option maxHeartbeats 4000000 in
theorem law_balanced (a d : List UInt8) (z : Int) (img : Bool) (w : World) (la : a.length ≤ 9223372036854775807) (ld : d.length ≤ 9223372036854775807) :
    Calls Tryz.prog 4 #[.string ⟨a.toArray⟩, .string ⟨d.toArray⟩, .int .i64 z, .bool img] w fun e' w' => e' = .returned (.bool true) ∧ Below w.heap.size w w' := by
  have sa := sz_mk a
  have sd := sz_mk d
  by_cases ba : a.length ≤ 2147483647
  · by_cases bd : d.length ≤ 2147483647
    · have WA := hid (word_any a w la)
      have WD := hid (only_any d [97, 98, 47, 46] 20 w (by omega) ld)
      go_enter Tryz.func4, Tryz.ntmps4
      go_wp2_with fail
      refine WA.out.mono ?_
      rintro e1 w1 ⟨⟨q, rfl, hq⟩, rfl⟩
      cases q with
      | false =>
        go_wp2_with fail
        go_ret
        exact ⟨rfl, Below.refl _ _⟩
      | true =>
        have HA := hid (hq rfl)
        clear hq WA
        go_wp2_with fail
        refine WD.out.mono ?_
        rintro e1 w1 ⟨⟨q, rfl, hq⟩, rfl⟩
        cases q with
        | false =>
          go_wp2_with fail
          go_ret
          exact ⟨rfl, Below.refl _ _⟩
        | true =>
          have HD := hid (hq rfl)
          clear hq WD
          by_cases hd0 : 0 < d.length
          · have hne : d.isEmpty = false := by
              cases d with
              | nil => simp at hd0
              | cons c l => rfl
            have hne2 : (ByteArray.mk d.toArray).toList.isEmpty = false := by
              rw [← decide_eq_emptyBytes]
              refine decide_eq_false (fun e => ?_)
              have h1 := congrArg ByteArray.size e
              rw [sd] at h1
              have : ByteArray.empty.size = 0 := rfl
              omega
            by_cases hz : 1 ≤ z ∧ z ≤ 60
            · obtain ⟨m, rfl⟩ : ∃ m : Nat, z = (m : Int) + 1 := ⟨(z - 1).toNat, by omega⟩
              have hm : m ≤ 59 := by omega
              have HB := hid (show BalL a d (m + 1) from ⟨HA.out, ⟨hd0, HD.out.1, HD.out.2⟩, by omega, by omega⟩)
              have ka := HA.out.len
              have kd := HD.out.1
              clear HA HD
              go_wp2_with fail
              refine (repZ_any 91 m _ w (by omega) (by omega)).mono ?_
              rintro e1 w1 ⟨rfl, hb1⟩
              have HB1 := hid hb1
              have r1 := repF_size m 91
              clear hb1
              go_wp2_with fail
              refine (repZ_any 93 m _ w1 (by omega) (by omega)).mono ?_
              rintro e1 w2 ⟨rfl, hb2⟩
              have HB2 := hid (HB1.out.trans (hb2.mono HB1.out.size))
              have r2 := repF_size m 93
              clear hb2
              cases img with
              | true =>
                go_wp2_with fail
                refine (HTML_bal _ true a d (m + 1) w2 (bal_si a d (m + 1) (by omega)) HB.out).mono ?_
                rintro e1 w3 ⟨rfl, hb3⟩
                have HB3 := hid (HB2.out.trans (hb3.mono HB2.out.size))
                clear hb3
                rw [bal_oi]
                unfold balB
                go_wp2_with fail
                go_ret
                exact ⟨rfl, HB3.out⟩
              | false =>
                go_wp2_with fail
                refine (HTML_bal _ false a d (m + 1) w2 (bal_s a d (m + 1) (by omega)) HB.out).mono ?_
                rintro e1 w3 ⟨rfl, hb3⟩
                have HB3 := hid (HB2.out.trans (hb3.mono HB2.out.size))
                clear hb3
                rw [bal_o]
                unfold balB
                go_wp2_with fail
                go_ret
                exact ⟨rfl, HB3.out⟩
            · by_cases hz1 : 1 ≤ z
              · have hz2 : ¬ z ≤ 60 := fun h => hz ⟨hz1, h⟩
                go_wp2_with fail
                go_ret
                exact ⟨rfl, Below.refl _ _⟩
              · go_wp2_with fail
                go_ret
                exact ⟨rfl, Below.refl _ _⟩
          · obtain rfl : d = [] := List.length_eq_zero_iff.1 (by omega)
            go_wp2_with fail
            go_ret
            exact ⟨rfl, Below.refl _ _⟩
    · go_enter Tryz.func4, Tryz.ntmps4
      go_wp2_with fail
      go_ret
      exact ⟨rfl, Below.refl _ _⟩
  · go_enter Tryz.func4, Tryz.ntmps4
    go_wp2_with fail
    go_ret
    exact ⟨rfl, Below.refl _ _⟩
end Go.Proofs.YtmmijmhdbpldpaaGreatDoor
/- Arguments of a law that are bytes. -/

namespace Go.Proofs.YtmmijmhdbpldpaaGreatDoor
open Go.RowKit Go.ChangeShapes Go.WideShapes Go.ChangeAt
/-- A byte, as a number below 256. -/
theorem open_byte {H : Type} {enc : TypeId × Value → H} {P : Program} {t : TypeId} (ht : P.underlying t = some (.int .u8)) {W : World} {base : Nat} {v : Value} {d : DataW H} {ps : List MemPlace}
    (hval : Value.okWide P W .any base t v) (h : DataW.Trod enc P W 0 (fun _ => true) true t v d ps) : ∃ n : Nat, v = .int .u8 n ∧ n < 256 := by
  obtain ⟨z, rfl, _, _, hw⟩ := open_int ht hval h
  have h3 : 0 ≤ z ∧ z ≤ 255 := by simpa [Lit.wf, IntKind.min, IntKind.max, IntKind.bits, IntKind.signed] using hw
  obtain ⟨n, rfl⟩ := Int.eq_ofNat_of_zero_le h3.1
  exact ⟨n, rfl, by omega⟩
end Go.Proofs.YtmmijmhdbpldpaaGreatDoor
/- The witness's world, for every law: the settled world, the eight listed variables holding what their initialisers lay. -/




namespace Go.Proofs.YtmmijmhdbpldpaaGreatDoor
open Go.RowKit Go.ChangeShapes Go.WideShapes Go.ChangeAt Go.Lib
/-- The cells of a datum of plain parts. -/
def flat1 : DataW Unit → List Value
  | .lit (.int k n) => [.int k n]
  | .lit (.string s) => [.string ⟨s.toArray⟩]
  | _ => []
def flat2 : DataW Unit → List Value
  | .agg ds => ds.flatMap flat1
  | d => flat1 d
def flat3 : DataW Unit → List Value
  | .agg ds => ds.flatMap flat2
  | d => flat2 d
noncomputable def laidWorld (os : Os) : World :=
  let N := (World.settled Tryz.prog os).heap.size
  let w0 := World.holding Tryz.prog os ⟨#[
    .cells #[.string ⟨#[105, 110, 118, 97, 108, 105, 100, 32, 115, 121, 110, 116, 97, 120]⟩] 310,
    .cells #[.string ⟨#[118, 97, 108, 117, 101, 32, 111, 117, 116, 32, 111, 102, 32, 114, 97, 110, 103, 101]⟩] 310], #[], []⟩
  let put (h : Array Obj) (g : Nat) (cs : Array Value) : Array Obj := h.modify g fun
    | .cells _ t frozen => .cells cs t frozen
    | o => o
  let h1 := put w0.heap 1 (flat3 Rows.laid_pub_paratext_pub_rscmarkdown_htmlEntities).toArray
  let h2 := put h1 2 (flat3 Rows.laid_unicode_utf8_first).toArray
  let h3 := put h2 3 (flat3 Rows.laid_unicode_utf8_acceptRanges).toArray
  let h4 := put h3 4 #[.iface 308 (.pointer (some ⟨N, 0, none⟩))]
  let h5 := put h4 5 #[.iface 308 (.pointer (some ⟨N + 1, 0, none⟩))]
  let h6 := put h5 6 (flat3 Rows.laid_internal_strconv_uint64pow10).toArray
  let h7 := put h6 7 (flat3 Rows.laid_math_bits_deBruijn32tab).toArray
  let h8 := put h7 8 (flat3 Rows.laid_math_bits_deBruijn64tab).toArray
  { w0 with heap := h8 }
noncomputable abbrev N0 : Nat := (World.settled Tryz.prog default).heap.size
set_option maxRecDepth 1000000 in
theorem laid_met (os : Os) (args : Array Value) : laidMet Tryz.prog Rows.fnAutoRow.laid ((laidWorld os).forCall (fun _ _ => 0) ⟨#[], args, []⟩).memory :=
  (LaidIn.of_run [1, 2, 3, 4, 5, 6, 7, 8, N0, N0 + 1] 8 (by kernel_rfl) (by kernel_rfl) (by kernel_rfl) (by kernel_rfl)).met
end Go.Proofs.YtmmijmhdbpldpaaGreatDoor
/- The closed facts that the row of FnBalanced asks of the program. -/


namespace Go.Proofs.YtmmijmhdbpldpaaGreatDoor.fnBalanced
open Go.ChangeShapes Go.WideShapes Go.ChangeAt Go.RowKit
set_option maxHeartbeats 8000000 in
set_option maxRecDepth 100000 in
theorem closed : joinedFacts Tryz.prog 4 Tryz.f4 (OpenSpec.ofChange Rows.fnBalancedSpec).bare Rows.fnBalancedRow = true := by
  unfold joinedFacts
  simp only [Bool.and_eq_true]
  repeat' (refine And.intro ?_ ?_)
  all_goals (as_aux_lemma => kernel_rfl)
theorem inst : Tryz.f4.isInstance Tryz.prog Rows.fnBalancedRow.origin Rows.fnBalancedRow.targs := of_decide_eq_true (by kernel_rfl)
theorem wrap : Tryz.f4.isWrapper Tryz.prog Rows.fnBalancedRow.wrapper Rows.fnBalancedRow.mainSum := by unfold Func.isWrapper; rw [if_neg (of_decide_eq_false (by kernel_rfl))]; exact ⟨rfl, rfl⟩
theorem looks : true = Tryz.prog.looks [] := by kernel_rfl
theorem named : Tryz.prog.funcNamed "pub-paratext/laws.FnBalanced" = some 4 := by kernel_rfl
theorem noStand0 : Tryz.prog.wantsStandIn 9 = false := by kernel_rfl
theorem read0 : Tryz.prog.readableRec 9 = true := by kernel_rfl
theorem lt0 : 9 < Tryz.prog.types.size := of_decide_eq_true (by kernel_rfl)
theorem noStand1 : Tryz.prog.wantsStandIn 3 = false := by kernel_rfl
theorem read1 : Tryz.prog.readableRec 3 = true := by kernel_rfl
theorem lt1 : 3 < Tryz.prog.types.size := of_decide_eq_true (by kernel_rfl)
theorem noStand2 : Tryz.prog.wantsStandIn 4 = false := by kernel_rfl
theorem read2 : Tryz.prog.readableRec 4 = true := by kernel_rfl
theorem lt2 : 4 < Tryz.prog.types.size := of_decide_eq_true (by kernel_rfl)
end Go.Proofs.YtmmijmhdbpldpaaGreatDoor.fnBalanced
/- The closed facts that the card of FnBalanced asks of the program. -/


namespace Go.Proofs.YtmmijmhdbpldpaaGreatDoor.fnBalanced
open Go.ChangeShapes Go.WideShapes Go.ChangeAt Go.RowKit
theorem goes : false = Rows.fnBalancedRow.goesBy Tryz.pinned.checked.prog := by kernel_rfl
theorem wfBy : Rows.fnBalancedRow.wfByText (OpenSpec.ofChange Rows.fnBalancedSpec) = true := by kernel_rfl
theorem mainIs : Tryz.pinned.checked.prog.mainIs = some ((true, "95e68baec09978130d1dc4d5052b3c4126b0390ccf37554e0a187599024dd8dc").1, (true, "95e68baec09978130d1dc4d5052b3c4126b0390ccf37554e0a187599024dd8dc").2.toList) := by kernel_rfl
end Go.Proofs.YtmmijmhdbpldpaaGreatDoor.fnBalanced
/- PROVED: up to 60 nested pairs of square brackets around a word, the outermost with a destination behind them, are one link, or one image, whose text has the other brackets in it (the law FnBalanced returns true). -/






namespace Go.Proofs.YtmmijmhdbpldpaaGreatDoor.fnBalanced
open Go.ChangeShapes Go.WideShapes Go.ChangeAt Go.RowKit
theorem bytes_back (s : ByteArray) : (⟨s.data.toList.toArray⟩ : ByteArray) = s := by simp
set_option maxRecDepth 100000 in
/-- What the walk gives, for every argument and every world. -/
theorem contract (H : Type) (enc : TypeId × Value → H) (W : World) (base : Nat) (args : Array Value) (ds gs : List (DataW H)) (before : List MemPlace)
    (hval : ∀ (j : Nat) t v, Tryz.f4.params[j]? = some t → args[j]? = some v → Value.okWide Tryz.prog W .any base t v)
    (hW : DataW.Whole enc Tryz.prog Tryz.f4.params.toList Rows.fnBalancedSpec.vars false W args.toList ds gs before) :
    Calls Tryz.prog 4 args W fun e W' => ∃ v, e = .returned v ∧ Rows.fnBalancedSpec.post enc Tryz.prog Tryz.f4 false true false false W args v W' := by
  have hW' := hW
  obtain ⟨p, q, hA0, hV, rfl, hfz, hnd⟩ := hW
  have hAk := hA0
  have hA : DataW.TrodAll enc Tryz.prog W 0 (fun _ => true) true Tryz.f4.params.toList args.toList ds p := hA0
  rw [Tryz.params4] at hA hval
  obtain ⟨v0, vs0, d0, ds0, p0, q0, hargs0, rfl, rfl, h0, r0⟩ := trodAll_cons hA
  obtain ⟨v1, vs1, d1, ds1, p1, q1, rfl, rfl, rfl, h1, r1⟩ := trodAll_cons r0
  obtain ⟨v2, vs2, d2, ds2, p2, q2, rfl, rfl, rfl, h2, r2⟩ := trodAll_cons r1
  obtain ⟨v3, vs3, d3, ds3, p3, q3, rfl, rfl, rfl, h3, r3⟩ := trodAll_cons r2
  obtain ⟨rfl, rfl, rfl⟩ := trodAll_nil r3
  obtain rfl : args = #[v0, v1, v2, v3] := by cases args; simp_all
  obtain ⟨rfl, rfl⟩ := trodVars_none hV
  obtain ⟨l0, rfl, _, _, hl0⟩ := Go.ChangeMaps.open_string Tryz.underlying9 (hval 0 9 v0 rfl rfl) h0
  have hll0 : l0.data.toList.length ≤ 9223372036854775807 := by
    have : l0.data.toList.length = l0.size := Array.length_toList
    unfold maxLen at hl0
    omega
  obtain ⟨l1, rfl, _, _, hl1⟩ := Go.ChangeMaps.open_string Tryz.underlying9 (hval 1 9 v1 rfl rfl) h1
  have hll1 : l1.data.toList.length ≤ 9223372036854775807 := by
    have : l1.data.toList.length = l1.size := Array.length_toList
    unfold maxLen at hl1
    omega
  obtain ⟨z2, rfl, _, _, _⟩ := open_int Tryz.underlying3 (hval 2 3 v2 rfl rfl) h2
  obtain ⟨b3, rfl, _, _⟩ := open_bool Tryz.underlying4 (hval 3 4 v3 rfl rfl) h3
  have hlaw := law_balanced l0.data.toList l1.data.toList z2 b3 W hll0 hll1
  rw [bytes_back, bytes_back] at hlaw
  refine hlaw.mono fun e W' ⟨he, hg⟩ => ?_
  subst he
  exact ⟨_, rfl, post_true hW' hAk rfl rfl rfl rfl rfl rfl (by rw [Tryz.params4]; intro t ht; simp at ht; rcases ht with rfl | rfl | rfl; (· exact ⟨read0, lt0⟩); (· exact ⟨read1, lt1⟩); exact ⟨read2, lt2⟩) hg⟩

theorem reads (os : Os) {H : Type} (enc : TypeId × Value → H) : ∃ places, DataW.whole enc Tryz.prog ((laidWorld os).forCall (fun _ _ => 0) ⟨#[], #[.string ⟨#[]⟩, .string ⟨#[]⟩, .int .i64 0, .bool false], []⟩).memory Tryz.f4.params.toList Rows.fnBalancedSpec.vars false #[Value.string ⟨#[]⟩, Value.string ⟨#[]⟩, Value.int .i64 0, Value.bool false].toList 8 = some ([.lit (.string []), .lit (.string []), .lit (.int .i64 0), .lit (.bool false)], [], places) :=
  ⟨[], by kernel_rfl⟩

set_option maxRecDepth 100000 in
theorem lifted (os : Os) (started : os.Started) (H : Type) (enc : TypeId × Value → H) (F : Stop.Interp) :
    ReturnsInHanded {} Tryz.checked os 4 .any ((OpenSpec.ofChange Rows.fnBalancedSpec).preRow enc Tryz.prog Tryz.f4 Rows.fnBalancedRow.domain false Rows.fnBalancedRow.laid) (((OpenSpec.ofChange Rows.fnBalancedSpec).at F).post enc Tryz.prog Tryz.f4 false true false false) := by
  obtain ⟨places, hx⟩ := reads os enc
  refine returnsInHanded_of_row (C := Tryz.checked) (s := OpenSpec.ofChange Rows.fnBalancedSpec) own started (by kernel_rfl) Tryz.func4
    (witness_row_atRef (enc := enc) (C := Tryz.checked) false (laidWorld os) #[.string ⟨#[]⟩, .string ⟨#[]⟩, .int .i64 0, .bool false] rfl (by kernel_rfl) (by kernel_rfl) (by kernel_rfl)
      (OpenSpec.preRow_of_cond 8 hx (by kernel_rfl) (fun k hk => by cases hk) (by kernel_rfl) (laid_met os _))) ?_
  intro W base args ds gs before hval hW _ _ _ _ _ _
  exact contract H enc W base args ds gs before hval hW

theorem said : Rows.FnBalancedSaid :=
  OpenClaim.holds_of_cond 4 Tryz.f4 rfl rfl rfl rfl rfl rfl rfl ⟨rfl, rfl, rfl, rfl, rfl⟩ rfl rfl rfl rfl rfl named Tryz.func4 closed inst wrap
    (fun os started H enc _ F => by rw [OpenClaim.pre_eq_preRow]; exact lifted os started H enc F)

theorem plain (f : FuncId) (fn : Func) (hf : Tryz.pinned.checked.prog.funcNamed "pub-paratext/laws.FnBalanced" = some f) (hfn : Tryz.pinned.checked.prog.funcs[f]? = some fn) :
    true = Tryz.pinned.checked.prog.looks [] ∧ ∀ (j : Nat) t, fn.params[j]? = some t → Tryz.pinned.checked.prog.wantsStandIn t = false := by
  obtain rfl : f = 4 := Option.some.inj (named.symm.trans hf) |>.symm
  obtain rfl : fn = Tryz.f4 := (Option.some.inj (Tryz.func4.symm.trans hfn)).symm
  refine ⟨looks, fun j t ht => ?_⟩
  rw [Tryz.params4] at ht
  have h : t = 9 ∨ t = 3 ∨ t = 4 := by simpa using Array.mem_of_getElem? ht
  rcases h with rfl | rfl | rfl
  · exact noStand0
  · exact noStand1
  · exact noStand2

theorem card : Rows.FnBalancedCardSaid :=
  Claim7.holds_tied_plain_at .later [] _ _ _ _ said (fun _ h => by cases h) wfBy (fun _ h => by cases h) fnBalanced_row_tie rfl ⟨rfl, rfl⟩ mainIs rfl plain goes
end Go.Proofs.YtmmijmhdbpldpaaGreatDoor.fnBalanced
