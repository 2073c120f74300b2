/- Texts of this proof, joined: A definition and a paragraph, in either order: the document's lines, A paragraph is open: its next line; a line that begins a block of HTML; and the last line of such a block, A line that begins a block of HTML behind a paragraph, and the last line of such a block. -/
import Derived.Test.YtmmijmhdbpldpaaGreatDoorCInt06
import Derived.Test.YtmmijmhdbpldpaaGreatDoorCInt12
import Derived.Test.YtmmijmhdbpldpaaGreatDoorCInt02
import Derived.Test.YtmmijmhdbpldpaaGreatDoorCInt07
import Derived.Test.YtmmijmhdbpldpaaGreatDoorCInt09
/- A definition and a paragraph, in either order: the document's lines. -/




namespace Go.Proofs.YtmmijmhdbpldpaaGreatDoor
open Go.RowKit
/-- An inline text is read, a link being known. -/
def InlCK (o : Opt) (k u : ByteArray) (s out : List UInt8) : Prop :=
  ∀ (g m b : Nat) (r : PSr) (w : World), IsPS w g r → Blk w r.parser 77 o.parser → r.parser ≠ g → r.back.length = 81 → r.links = some m → Known w m k u b → r.corner = false → Calls Tryz.prog 56 #[.pointer (some ⟨g, 0, none⟩), .string ⟨s.toArray⟩] w (InlPost g r out w)
def emptyV (k : Nat) : Value := .iface 353 (.pointer (some ⟨k, 0, none⟩))
def ClE (w : World) (k : Nat) : Prop := ∃ sl el : Int, Blk w k 355 #[.int .i64 sl, .int .i64 el]
def ClP (w : World) (k tb : Nat) (U : List UInt8) : Prop := ∃ sl el sl2 el2 : Int, Blk w k 155 #[.int .i64 sl, .int .i64 el, .pointer (some ⟨tb, 0, none⟩)] ∧ Blk w tb 110 #[.int .i64 sl2, .int .i64 el2, .slice none 0 0, .string ⟨U.toArray⟩]
theorem Known.keep {w w' : World} {m b : Nat} {k u : ByteArray} (h : Known w m k u b) (hk : KeepD w w') : Known w' m k u b := by
  obtain ⟨⟨c0, cl, h3⟩, h4⟩ := h
  exact ⟨⟨c0, cl, hk.obj h3 (fun _ _ _ => by simp)⟩, hk.blk h4 (by decide) (by decide) (by decide)⟩
theorem ClE.keep {w w' : World} {k : Nat} (h : ClE w k) (hk : KeepD w w') : ClE w' k := by
  obtain ⟨sl, el, h⟩ := h
  exact ⟨sl, el, hk.blk h (by decide) (by decide) (by decide)⟩
theorem ClP.keep {w w' : World} {k tb : Nat} {U : List UInt8} (h : ClP w k tb U) (hk : KeepD w w') : ClP w' k tb U := by
  obtain ⟨sl, el, sl2, el2, h1, h2⟩ := h
  exact ⟨sl, el, sl2, el2, hk.blk h1 (by decide) (by decide) (by decide), hk.blk h2 (by decide) (by decide) (by decide)⟩
/-- What the first block has left. -/
def Mid (pb g : Nat) (bh : Bool) (U : List UInt8) (key u : ByteArray) (r : PSr) (bv : Value) (w : World) : Prop :=
  r.parser = pb ∧ r.back.length = 81 ∧ r.corner = false ∧
  ((bh = false ∧ ∃ k m b, bv = emptyV k ∧ ClE w k ∧ r.links = some m ∧ Known w m key u b ∧ r.texts = Sl.nil ∧ g < m ∧ g < b) ∨
   (bh = true ∧ ∃ k tb ta tc, bv = parV k ∧ ClP w k tb U ∧ r.links = none ∧ r.texts = ⟨ta, 1, tc⟩ ∧ w.ownsRow (g + 1) 105 1 (.slice ta 1 tc) 1 [.pointer (some ⟨tb, 0, none⟩)] ∧ g < tb))
theorem Mid.keep {pb g : Nat} {bh : Bool} {U : List UInt8} {key u : ByteArray} {r r2 : PSr} {bv : Value} {w w' : World} (h : Mid pb g bh U key u r bv w) (hk : KeepD w w') (h1 : r2.parser = r.parser) (h2 : r2.back = r.back) (h3 : r2.corner = r.corner) (h4 : r2.links = r.links) (h5 : r2.texts = r.texts) : Mid pb g bh U key u r2 bv w' := by
  obtain ⟨a1, a2, a3, a4⟩ := h
  refine ⟨h1.trans a1, by rw [h2]; exact a2, h3.trans a3, ?_⟩
  rcases a4 with ⟨b0, k, m, b, b1, b2, b3, b4, b5, b6, b7⟩ | ⟨b0, k, tb, ta, tc, b1, b2, b3, b4, b5, b6⟩
  · exact .inl ⟨b0, k, m, b, b1, b2.keep hk, h4.trans b3, b4.keep hk, h5.trans b5, b6, b7⟩
  · exact .inr ⟨b0, k, tb, ta, tc, b1, b2.keep hk, h4.trans b3, h5.trans b4, hk.own b5 (by decide) (by decide) (by decide), b6⟩
/-- Behind the blank line. -/
def R2 (pb g : Nat) (bh : Bool) (U : List UInt8) (key u : ByteArray) (a : Option Addr) (w : World) : Prop :=
  ∃ (r : PSr) (v1 : Sl) (bv : Value), r.lineno = 2 ∧ IsPS w g r ∧ IsStack w (g + 1) r.stack ([] ++ [rootF a v1]) ∧ v1.n = 1 ∧ w.ownsRow (g + 1) 69 1 v1.v 1 [bv] ∧ Mid pb g bh U key u r bv w
theorem R2.lnKept {pb g base : Nat} {bh : Bool} {U : List UInt8} {key u : ByteArray} {a : Option Addr} {w w' : World} (h : R2 pb g bh U key u a w) (hk : LnKept base w w') : R2 pb g bh U key u a w' := by
  obtain ⟨r, v1, bv, h1, h2, h3, h4, h5, h6⟩ := h
  exact ⟨r, v1, bv, h1, h2.lnKept hk, h3.lnKept hk, h4, own_lnKept h5 hk (by decide), h6.keep (KeepD.lnKept hk) rfl rfl rfl rfl rfl⟩
theorem joinT_one (s : List UInt8) : joinT [⟨s.toArray⟩] = s := by unfold joinT; rw [List.map_cons, List.map_nil, Lib.join_cons]; simp [Lib.joinTail]
set_option maxRecDepth 20000 in
/-- The first block is closed by a blank line. -/
theorem addLine_blank2 (pb g qb : Nat) (bh : Bool) (D U : List UInt8) (j : Nat) (r : PSr) (a : Option Addr) (v : Sl) (nl : Int) (w : World) (hps : IsPS w g r) (hst : IsStack w (g + 1) r.stack ([] ++ [rootF a Sl.nil] ++ [parE qb 1 1])) (hp : IsPara w (g + 1) qb v [lineV (if bh then U else D)]) (hv : v.n = 1)
    (h1 : r.lineno = 2) (h2 : r.parser = pb) (h3 : r.back.length = 81) (h4 : r.corner = false) (h5 : r.links = none) (h6 : r.texts = Sl.nil) (HD : RefText ⟨D.toArray⟩ j) (HU : ParaHead U) :
    Calls Tryz.prog 54 #[.pointer (some ⟨g, 0, none⟩), lnV 0 0 ⟨#[]⟩ nl] w fun e w' => e = .returned (.tuple #[]) ∧ (R2 pb g bh U (refKey ⟨D.toArray⟩ j) ((ByteArray.mk D.toArray).extract (j + 3) (ByteArray.mk D.toArray).size) a w' ∧ Mod (fun k => g ≤ k) w w') := by
  have hg := hps.lt
  refine addLine_blankP (g + 1) g qb r (rootF a Sl.nil) 1 1 nl w (fun w' => R2 pb g bh U (refKey ⟨D.toArray⟩ j) ((ByteArray.mk D.toArray).extract (j + 3) (ByteArray.mk D.toArray).size) a w' ∧ Mod (fun k => g ≤ k) w w') (Nat.lt_succ_self _) hps hst ?_ ?_
  · rintro w1 w2 ⟨q1, q2⟩ hk
    exact ⟨q1.lnKept hk, q2.lnKept hk (Nat.le_of_lt hg)⟩
  · rintro w1 ⟨p1, p2, p3, p4⟩
    have hpara1 : IsPara w1 (g + 1) qb v [lineV (if bh then U else D)] := ⟨p3.blk hp.1 (by decide) (by decide) (by decide), p3.own hp.2.1 (by decide) (by decide) (by decide), hp.2.2⟩
    cases bh with
    | false =>
      refine (trim_leaf1 (g + 1) g { r with lineDepth := 0 } (rootF a Sl.nil) (parE qb 1 1) [] 353 _ w1 p1 p2 (closeRef_any (g + 1) g qb { r with lineDepth := 0 } (rootF a Sl.nil) [] v ⟨D.toArray⟩ j 1 1 w1 p1.lt p1 h5 p2 (World.ownsRow_nil _ _ _ _) (by show 0 ≤ 1000000; omega) hpara1 hv HD)).mono ?_
      rintro e w' ⟨rfl, r', k, w2, v1, st, ⟨m, b, sl, el, rfl, q1, q2, q3, q4, q5, q6⟩, hps2, hst2, hv1, hrow, hm⟩
      have hg1 := p1.lt
      have hstz : ∀ q, some q = r.stack.v.ownBlock → q < w1.heap.size := fun q e => ownLt p2.2 e
      have hn : ∀ q, w1.heap.size ≤ q → ¬ (q = g ∨ some q = ({ ({ r with lineDepth := 0 } : PSr) with links := some m }).stack.v.ownBlock ∨ some q = (rootF a Sl.nil).inner.v.ownBlock) := fun q hq e => by
        rcases e with e | e | e
        · omega
        · have := hstz q e; omega
        · cases e
      have hv1' : v1.n = 1 := hv1
      rw [hv1'] at hrow
      refine ⟨rfl, ⟨{ r with lineDepth := 0, links := some m, stack := st }, v1, emptyV k, h1, hps2, hst2, hv1', hrow, h2, h3, h4, .inl ⟨rfl, k, m, b, rfl, ⟨sl, el, q2.mod hm (hn k q1)⟩, rfl, q3.mod hm (hn m q4) (hn b q5), h6, by omega, by omega⟩⟩, ?_⟩
      refine (p4.trans q6 (fun q _ e => by omega)).trans hm (fun q hq e => ?_)
      rcases e with e | e | e
      · omega
      · have := ownBase p2.2 e; omega
      · cases e
    | true =>
      have hj := joinT_one U
      refine (trim_leaf1 (g + 1) g { r with lineDepth := 0 } (rootF a Sl.nil) (parE qb 1 1) [] 153 _ w1 p1 p2 (closePara_any (g + 1) g qb { r with lineDepth := 0 } (rootF a Sl.nil) [] v [⟨U.toArray⟩] [] 1 1 w1 p1.lt p1 p2 (World.ownsRow_nil _ _ _ _) (by show 0 ≤ 1000000; omega) hpara1 hv (by show World.ownsRow _ _ _ _ (Sl.v r.texts) r.texts.n []; rw [h6]; exact World.ownsRow_nil _ _ _ _) (by show r.texts.n ≤ 1000000; rw [h6]; show 0 ≤ 1000000; omega) (by omega) (by simp) (by simp) (by rw [hj]; exact HU))).mono ?_
      rintro e w' ⟨rfl, r', k, w2, v1, st, ⟨tb, l, rfl, q1, q2, q3, q4, q5, q6, q7⟩, hps2, hst2, hv1, hrow, hm⟩
      rw [hj] at q4
      obtain ⟨la, ln, lc⟩ := l
      have hln : ln = 1 := by have : ln = r.texts.n + 1 := q6; rw [h6] at this; exact this
      subst hln
      have hg1 := p1.lt
      have hst1 := p2.mod q7 (fun k hk e => by
        rcases e with e | e
        · subst e; exact own_ne p2.2 p1 (by decide) hk.symm
        · have e' : some k = r.texts.v.ownBlock := e
          rw [h6] at e'; cases e')
      have hv1' : v1.n = 1 := hv1
      rw [hv1'] at hrow
      have hne : ∀ (q : Nat) (ty : TypeId) cs, Blk w2 q ty cs → q ≠ g → ty ≠ 121 → ¬ (q = g ∨ some q = r.stack.v.ownBlock ∨ some q = (rootF a Sl.nil).inner.v.ownBlock) := fun q ty cs hb hq ht e => by
        rcases e with e | e | e
        · exact hq e
        · exact own_ne hst1.2 hb ht.symm e
        · cases e
      have hrt : w'.ownsRow (g + 1) 105 1 (.slice la 1 lc) 1 [.pointer (some ⟨tb, 0, none⟩)] := own_mod q5 hm (fun q hq e => by
        rcases e with e | e | e
        · have := ownBase q5 hq.symm; omega
        · exact ownApart q5 hst1.2 (by decide) hq e.symm
        · cases e)
      refine ⟨rfl, ⟨{ r with lineDepth := 0, texts := ⟨la, 1, lc⟩, stack := st }, v1, parV k, h1, hps2, hst2, hv1', hrow, h2, h3, h4, .inr ⟨rfl, k, tb, la, lc, rfl, ⟨_, _, _, _, q3.mod hm (hne k _ _ q3 (by omega) (by decide)), q4.mod hm (hne tb _ _ q4 (by omega) (by decide))⟩, h5, rfl, hrt, by omega⟩⟩, ?_⟩
      refine (p4.trans q7 (fun q hq e => ?_)).trans hm (fun q hq e => ?_)
      · rcases e with e | e
        · omega
        · have e' : some q = r.texts.v.ownBlock := e
          rw [h6] at e'; cases e'
      · rcases e with e | e | e
        · omega
        · have := ownBase p2.2 e; omega
        · cases e
/-- The document's lines, one after the other. -/
def RInv (pb g : Nat) (w0 : World) (o : Opt) (bh : Bool) (D U : List UInt8) (key u : ByteArray) (l : List UInt8) (n : Nat) (w : World) : Prop :=
  Below g w0 w ∧ Blk w pb 77 o.parser ∧ ∃ (st : Sl) (a : Option Addr),
    (l = (if bh then U else D) ++ 10 :: ([] ++ 10 :: ((if bh then D else U) ++ 10 :: [])) ∧ n = 0 ∧ IsPS w g { ps0 pb with stack := st } ∧ IsStack w (g + 1) st ([] ++ [rootF a Sl.nil])) ∨
    (∃ qb v, l = [] ++ 10 :: ((if bh then D else U) ++ 10 :: []) ∧ n = 1 ∧ IsPS w g { ps0 pb with lineno := 1, lineDepth := 0, stack := st } ∧ IsStack w (g + 1) st ([] ++ [rootF a Sl.nil] ++ [parE qb 1 1]) ∧ IsPara w (g + 1) qb v [lineV (if bh then U else D)] ∧ v.n = 1) ∨
    (l = (if bh then D else U) ++ 10 :: [] ∧ n = 2 ∧ R2 pb g bh U key u a w) ∨
    (∃ r v1 bv qb v, l = [] ∧ n = 3 ∧ IsPS w g r ∧ r.lineno = 3 ∧ IsStack w (g + 1) r.stack ([] ++ [rootF a v1] ++ [parE qb 3 3]) ∧ v1.n = 1 ∧ w.ownsRow (g + 1) 69 1 v1.v 1 [bv] ∧ Mid pb g bh U key u r bv w ∧ IsPara w (g + 1) qb v [lineV (if bh then D else U)] ∧ v.n = 1)
def RFin (pb g : Nat) (w0 : World) (o : Opt) (bh : Bool) (U out : List UInt8) (key u : ByteArray) (ta : Option Addr) (k : Nat) (w : World) : Prop :=
  Below g w0 w ∧ Blk w pb 77 o.parser ∧ ∃ (r : PSr) (d kb tb eb ab : Nat) (v1 : Sl) (tc m b : Nat), IsPS w g r ∧ r.parser = pb ∧ r.root = some ⟨d, 0, none⟩ ∧ ta = some ⟨ab, 0, none⟩ ∧ r.texts = ⟨ta, 1, tc⟩ ∧ w.ownsRow (g + 1) 105 1 r.texts.v 1 [.pointer (some ⟨tb, 0, none⟩)] ∧
    Blk w d 339 #[.int .i64 0, .int .i64 0, v1.v, .map (some m)] ∧ v1.n = 2 ∧ w.ownsRow (g + 1) 69 1 v1.v 2 (if bh then [parV kb, emptyV eb] else [emptyV eb, parV kb]) ∧ g < tb ∧ ClE w eb ∧ Known w m key u b ∧ m ≠ g ∧
    ((k = 0 ∧ r.back.length = 81 ∧ r.links = some m ∧ r.corner = false ∧ ClP w kb tb U) ∨ (k = 1 ∧ IsPar w (g + 1) kb tb out))
theorem map_ne {w : World} {base : Nat} {e : TypeId} {size n : Nat} {v : Value} {xs : List Value} {m b : Nat} {k : ByteArray} (h : w.ownsRow base e size v n xs) (hm : LinkMap w m k b) : some m ≠ v.ownBlock := by
  obtain ⟨c0, cl, hm⟩ := hm
  rcases h.2 with ⟨rfl, _⟩ | ⟨g', cap, cur, rfl, _, hh, _⟩
  · intro e; cases e
  · intro e
    obtain rfl : m = g' := Option.some.inj e
    rw [hh] at hm
    cases hm
theorem map_ps {w : World} {g m b : Nat} {r : PSr} {k : ByteArray} (h : IsPS w g r) (hm : LinkMap w m k b) : m ≠ g := by
  obtain ⟨c0, cl, hm⟩ := hm
  intro e
  subst e
  unfold IsPS Blk at h
  rw [h] at hm
  cases hm
theorem R2.drewN {pb g : Nat} {bh : Bool} {U : List UInt8} {key u : ByteArray} {a : Option Addr} {w : World} (h : R2 pb g bh U key u a w) (n : Nat) : R2 pb g bh U key u a (w.drewN n) := h.lnKept (LnKept.drewN (LnKept.refl 0 w) n)
theorem KeepD.drewN (w : World) (n : Nat) : KeepD w (w.drewN n) := KeepD.of ((Mod.refl (fun _ => False) w).drewN n) (fun _ _ h => h.elim)
set_option maxRecDepth 20000 in
theorem refH (pb g : Nat) (w0 : World) (o : Opt) (bh : Bool) (D U out : List UInt8) (j : Nat) (hpb : pb < g) (hDl : ParLine ⟨D.toArray⟩) (hUl : ParLine ⟨U.toArray⟩) (hDn : 10 ∉ D ∧ 13 ∉ D) (hUn : 10 ∉ U ∧ 13 ∉ U) (HD : RefText ⟨D.toArray⟩ j) (HU : ParaHead U) (ht : o.tasks = false)
    (hi : InlCK o (refKey ⟨D.toArray⟩ j) ((ByteArray.mk D.toArray).extract (j + 3) (ByteArray.mk D.toArray).size) U out) :
    ParseH2 pb g 1 (RInv pb g w0 o bh D U (refKey ⟨D.toArray⟩ j) ((ByteArray.mk D.toArray).extract (j + 3) (ByteArray.mk D.toArray).size)) (RFin pb g w0 o bh U out (refKey ⟨D.toArray⟩ j) ((ByteArray.mk D.toArray).extract (j + 3) (ByteArray.mk D.toArray).size)) (D.length + U.length + 3) where
  line := by
    have hX1 : ParLine ⟨(if bh then U else D).toArray⟩ := by cases bh <;> assumption
    have hX2 : ParLine ⟨(if bh then D else U).toArray⟩ := by cases bh <;> assumption
    have hN1 : 10 ∉ (if bh then U else D) ∧ 13 ∉ (if bh then U else D) := by cases bh <;> assumption
    have hN2 : 10 ∉ (if bh then D else U) ∧ 13 ∉ (if bh then D else U) := by cases bh <;> assumption
    have hdl : D.length ≤ 100000 := by have := hDl.size; rwa [sz_mk] at this
    have hul : U.length ≤ 100000 := by have := hUl.size; rwa [sz_mk] at this
    intro l n w ⟨hb, hpar, st, a, h⟩ hne hll
    rcases h with ⟨rfl, rfl, hps, hst⟩ | ⟨qb, v, rfl, rfl, hps, hst, hp, hv⟩ | ⟨rfl, rfl, h2⟩ | ⟨_, _, _, _, _, h, _⟩
    · have hg := hps.lt
      refine ⟨⟨_, hps, rfl⟩, by omega, ?_⟩
      rw [nextLine_cut _ _ hN1.1 hN1.2 (by simp only [List.nil_append, List.mem_cons, List.mem_append, List.not_mem_nil, or_false, not_or]; exact ⟨by decide, hN2.2, by decide⟩)]
      have hne2 : some g ≠ st.v.ownBlock := own_ne hst.2 hps (by decide)
      have hpar3 := hpar.far (p := ⟨g, 3, none⟩) (Blk.ne_ hpar hps (by decide)) (.int .i64 ((0 : Nat) + 1))
      refine (addLine_par1 (g + 1) g { ps0 pb with lineno := 1, stack := st } a Sl.nil o.tables ((10 : Nat) : Int) ⟨(if bh then U else D).toArray⟩ _ (Nat.lt_succ_self _) (by simp; exact hg) (hps.set3 _) (hst.far (p := ⟨g, 3, none⟩) hne2 _) hX1 hpb (hpar3.at_ 5 rfl)).mono ?_
      rintro e w' ⟨rfl, ⟨st2, qb, v, h1, h2, h3, h4, hm⟩, _⟩
      refine ⟨rfl, ?_, hpar3.mod hm (by omega), st2, a, .inr (.inl ⟨qb, v, rfl, rfl, h1, h2, h3, h4⟩)⟩
      exact (hb.setCell (p := ⟨g, 3, none⟩) (Nat.le_refl _) _).trans (hm.toBelow (B := g) (by simp; exact Nat.le_of_lt hg) (fun k hk e => by omega))
    · have hg := hps.lt
      refine ⟨⟨_, hps, rfl⟩, by omega, ?_⟩
      rw [nextLine_cut [] _ (by simp) (by simp) (by simp only [List.mem_append, List.mem_cons, List.not_mem_nil, or_false, not_or]; exact ⟨hN2.2, by decide⟩)]
      have hne2 : some g ≠ st.v.ownBlock := own_ne hst.2 hps (by decide)
      have hpar3 := hpar.far (p := ⟨g, 3, none⟩) (Blk.ne_ hpar hps (by decide)) (.int .i64 ((1 : Nat) + 1))
      refine (addLine_blank2 pb g qb bh D U j { ps0 pb with lineno := 2, lineDepth := 0, stack := st } a v ((10 : Nat) : Int) _ (hps.set3 _) (hst.far (p := ⟨g, 3, none⟩) hne2 _) (hp.far (p := ⟨g, 3, none⟩) hps (by decide) (by decide) _) hv rfl rfl rfl rfl rfl rfl HD HU).mono ?_
      rintro e w' ⟨rfl, h2, hm⟩
      refine ⟨rfl, ?_, hpar3.mod hm (by omega), st, a, .inr (.inr (.inl ⟨rfl, rfl, h2⟩))⟩
      exact (hb.setCell (p := ⟨g, 3, none⟩) (Nat.le_refl _) _).trans (hm.toBelow (B := g) (by simp; exact Nat.le_of_lt hg) (fun k hk e => by omega))
    · obtain ⟨r, v1, bv, h1, hps, hst, h4, h5, h6⟩ := h2
      have hg := hps.lt
      refine ⟨⟨_, hps, h1⟩, by omega, ?_⟩
      rw [nextLine_cut _ _ hN2.1 hN2.2 (by simp)]
      have hne2 : some g ≠ r.stack.v.ownBlock := own_ne hst.2 hps (by decide)
      have hpar3 := hpar.far (p := ⟨g, 3, none⟩) (Blk.ne_ hpar hps (by decide)) (.int .i64 ((2 : Nat) + 1))
      have hk3 : KeepD w (w.setCell ⟨g, 3, none⟩ (.int .i64 ((2 : Nat) + 1))) := KeepD.of ((Mod.refl (fun k => k = g) w).setCell (p := ⟨g, 3, none⟩) (.inl rfl) _) (fun k _ e => by subst e; exact own3_ps hps)
      have hrp := h6.1
      refine (addLine_par1 (g + 1) g { r with lineno := 3 } a v1 o.tables ((10 : Nat) : Int) ⟨(if bh then D else U).toArray⟩ _ (Nat.lt_succ_self _) (by simp; exact hg) (hps.set3 _) (hst.far (p := ⟨g, 3, none⟩) hne2 _) hX2 (by show r.parser < g; omega) (by show World.cell? _ ⟨r.parser, 5, none⟩ = _; rw [hrp]; exact hpar3.at_ 5 rfl)).mono ?_
      rintro e w' ⟨rfl, ⟨st2, qb, v, q1, q2, q3, q4, hm⟩, hkd⟩
      refine ⟨rfl, ?_, hpar3.mod hm (by omega), st2, a, .inr (.inr (.inr ⟨_, v1, bv, qb, v, rfl, rfl, q1, rfl, q2, h4, ?_, h6.keep (hk3.trans hkd) rfl rfl rfl rfl rfl, q3, q4⟩))⟩
      · exact (hb.setCell (p := ⟨g, 3, none⟩) (Nat.le_refl _) _).trans (hm.toBelow (B := g) (by simp; exact Nat.le_of_lt hg) (fun k hk e => by omega))
      · exact (hk3.trans hkd).own h5 (by decide) (by decide) (by decide)
    · exact absurd h hne
  drew := by
    intro l n w k ⟨hb, hpar, st, a, h⟩
    refine ⟨below_drewN hb k, hpar.drewN k, st, a, ?_⟩
    rcases h with ⟨h1, h2, hps, hst⟩ | ⟨qb, v, h1, h2, hps, hst, ⟨q1, q2, q3⟩, h4⟩ | ⟨h1, h2, h3⟩ | ⟨r, v1, bv, qb, v, h1, h2, h3, h4, h5, h6, h7, h8, ⟨q1, q2, q3⟩, h10⟩
    · exact .inl ⟨h1, h2, hps.drewN k, hst.drewN k⟩
    · exact .inr (.inl ⟨qb, v, h1, h2, hps.drewN k, hst.drewN k, ⟨q1.drewN k, World.ownsRow.drewN q2 k, q3⟩, h4⟩)
    · exact .inr (.inr (.inl ⟨h1, h2, h3.drewN k⟩))
    · exact .inr (.inr (.inr ⟨r, v1, bv, qb, v, h1, h2, h3.drewN k, h4, h5.drewN k, h6, World.ownsRow.drewN h7 k, h8.keep (KeepD.drewN w k) rfl rfl rfl rfl rfl, ⟨q1.drewN k, World.ownsRow.drewN q2 k, q3⟩, h10⟩))
  trim := by
    intro n w ⟨hb, hpar, st, a, h⟩
    rcases h with ⟨h1, _⟩ | ⟨qb, v, h1, _⟩ | ⟨h1, _⟩ | ⟨r, v1, bv, qb, v, _, _, hps, hln, hst, hv1, hrow, hmid, hp, hv⟩
    · exfalso; have := congrArg List.length h1; simp at this
    · exfalso; have := congrArg List.length h1; simp at this
    · exfalso; have := congrArg List.length h1; simp at this
    · have hg := hps.lt
      obtain ⟨mp, mb, mc, hmid⟩ := hmid
      cases bh with
      | false =>
        rcases hmid with ⟨_, eb, m, b, rfl, he, hlk, hK, htx, hgm, hgb⟩ | ⟨h, _⟩
        · have hj := joinT_one U
          refine (trim_leaf0 (g + 1) g r a v1 0 0 (parE qb 3 3) [emptyV eb] 153 _ w hps hst (closePara_any (g + 1) g qb r (rootF a v1) [emptyV eb] v [⟨U.toArray⟩] [] 3 3 w hg hps hst (by show World.ownsRow _ _ _ _ v1.v v1.n _; rw [hv1]; exact hrow) (by show v1.n ≤ 1000000; omega) hp hv (by rw [htx]; exact World.ownsRow_nil _ _ _ _) (by rw [htx]; show 0 ≤ 1000000; omega) (by omega) (by simp) (by simp) (by rw [hj]; exact HU))).mono ?_
          rintro e w' ⟨rfl, r', kb, w2, v2, st2, d, ⟨tb, l, rfl, q1, q2, q3, q4, q5, q6, q7⟩, hd, hps2, hv2, hrow2, hdoc, hm⟩
          rw [hj] at q4
          obtain ⟨la, ln, lc⟩ := l
          have hln : ln = 1 := by have h8 : ln = r.texts.n + 1 := q6; rw [htx] at h8; exact h8
          subst hln
          have hrow' : w.ownsRow (g + 1) 69 1 v1.v 1 [emptyV eb] := hrow
          have hS7 : ∀ q, (q = g ∨ some q = r.texts.v.ownBlock) → q = g := fun q e => by
            rcases e with e | e
            · exact e
            · rw [htx] at e; cases e
          have q7' : Mod (fun q => q = g) w w2 := q7.mono (fun q _ e => hS7 q e)
          have hst1 := hst.mod q7' (fun k hk e => by subst e; exact own_ne hst.2 hps (by decide) hk.symm)
          have hrow1 := own_mod hrow' q7' (fun k hk e => by subst e; exact own_ne hrow' hps (by decide) hk.symm)
          obtain ⟨sl, el, he⟩ := he
          have he1 := he.mod q7' (fun e => Blk.ne_ he hps (by decide) e)
          have hK1 := hK.mod q7' (map_ps hps hK.1) (fun e => Blk.ne_ hK.2 hps (by decide) e)
          have hne : ∀ (q : Nat) (ty : TypeId) cs, Blk w2 q ty cs → q ≠ g → ty ≠ 121 → ty ≠ 69 → ¬ (q = g ∨ some q = r.stack.v.ownBlock ∨ some q = v1.v.ownBlock) := fun q ty cs hb hq ht ht2 e => by
            rcases e with e | e | e
            · exact hq e
            · exact own_ne hst1.2 hb ht.symm e
            · exact own_ne hrow1 hb ht2.symm e
          have hgne : ∀ (q : Nat) (ty : TypeId) cs, Blk w2 q ty cs → Blk w q ty cs → ty ≠ 95 → q ≠ g := fun q ty cs _ h2 ht => Blk.ne_ h2 hps ht
          have hrt : w'.ownsRow (g + 1) 105 1 (.slice la 1 lc) 1 [.pointer (some ⟨tb, 0, none⟩)] := own_mod q5 hm (fun q hq e => by
            rcases e with e | e | e
            · have := ownBase q5 hq.symm; omega
            · exact ownApart q5 hst1.2 (by decide) hq e.symm
            · exact ownApart q5 hrow1 (by decide) hq e.symm)
          obtain ⟨ab, cs, hab, _⟩ := row_blk hrt (Nat.succ_pos 0)
          have hv2' : v2.n = 2 := by have h8 : v2.n = v1.n + 1 := hv2; omega
          have hbel : Below g w w' := (q7'.toBelow (B := g) (Nat.le_of_lt hg) (fun k hk e => by omega)).trans (hm.toBelow (B := g) (Nat.le_trans (Nat.le_of_lt hg) q7.size) (fun k hk e => by
            rcases e with e | e | e
            · omega
            · have := ownBase hst.2 e; omega
            · have := ownBase hrow' e; omega))
          have hrow3 : w'.ownsRow (g + 1) 69 1 v2.v 2 [emptyV eb, parV kb] := by rw [hv2'] at hrow2; exact hrow2
          have hdoc' : Blk w' d 339 #[.int .i64 0, .int .i64 0, v2.v, .map (some m)] := by rw [← hlk]; exact hdoc
          exact ⟨rfl, la, hb.trans hbel, hpar.mod (Mod.below hbel (S := fun k => g ≤ k) (fun k _ h => h)) (by omega), _, d, kb, tb, eb, ab, v2, lc, m, b, hps2, mp, rfl, hab, rfl, hrt, hdoc', hv2', hrow3, by omega, ⟨sl, el, he1.mod hm (hne eb _ _ he1 (hgne _ _ _ he1 he (by decide)) (by decide) (by decide))⟩, hK1.mod hm (fun e => by
            rcases e with e | e | e
            · omega
            · exact map_ne hst1.2 hK1.1 e
            · exact map_ne hrow1 hK1.1 e) (hne b _ _ hK1.2 (by omega) (by decide) (by decide)), by omega, .inl ⟨rfl, mb, hlk, mc, _, _, _, _, q3.mod hm (hne kb _ _ q3 (by omega) (by decide) (by decide)), q4.mod hm (hne tb _ _ q4 (by omega) (by decide) (by decide))⟩⟩
        · cases h
      | true =>
        rcases hmid with ⟨h, _⟩ | ⟨_, kb, tb, ta, tc, rfl, hP, hlk, htx, htr, hgt⟩
        · cases h
        · refine (trim_leaf0 (g + 1) g r a v1 0 0 (parE qb 3 3) [parV kb] 353 _ w hps hst (closeRef_any (g + 1) g qb r (rootF a v1) [parV kb] v ⟨D.toArray⟩ j 3 3 w hg hps hlk hst (by show World.ownsRow _ _ _ _ v1.v v1.n _; rw [hv1]; exact hrow) (by show v1.n ≤ 1000000; omega) hp hv HD)).mono ?_
          rintro e w' ⟨rfl, r', eb, w2, v2, st2, d, ⟨m, b, sl, el, rfl, q1, q2, q3, q4, q5, q6⟩, hd, hps2, hv2, hrow2, hdoc, hm⟩
          have hrow' : w.ownsRow (g + 1) 69 1 v1.v 1 [parV kb] := hrow
          have hst1 := hst.mod q6 (fun k hk e => by subst e; exact own_ne hst.2 hps (by decide) hk.symm)
          have hrow1 := own_mod hrow' q6 (fun k hk e => by subst e; exact own_ne hrow' hps (by decide) hk.symm)
          obtain ⟨sl3, el3, sl4, el4, hP1, hP2⟩ := hP
          have hp1 := hP1.mod q6 (fun e => Blk.ne_ hP1 hps (by decide) e)
          have hp2 := hP2.mod q6 (fun e => Blk.ne_ hP2 hps (by decide) e)
          have hne : ∀ (q : Nat) (ty : TypeId) cs, Blk w2 q ty cs → q ≠ g → ty ≠ 121 → ty ≠ 69 → ¬ (q = g ∨ some q = r.stack.v.ownBlock ∨ some q = v1.v.ownBlock) := fun q ty cs hb hq ht ht2 e => by
            rcases e with e | e | e
            · exact hq e
            · exact own_ne hst1.2 hb ht.symm e
            · exact own_ne hrow1 hb ht2.symm e
          have htr1 := own_mod htr q6 (fun k hk e => by subst e; exact own_ne htr hps (by decide) hk.symm)
          have hrt : w'.ownsRow (g + 1) 105 1 (.slice ta 1 tc) 1 [.pointer (some ⟨tb, 0, none⟩)] := own_mod htr1 hm (fun q hq e => by
            rcases e with e | e | e
            · have := ownBase htr1 hq.symm; omega
            · exact ownApart htr1 hst1.2 (by decide) hq e.symm
            · exact ownApart htr1 hrow1 (by decide) hq e.symm)
          obtain ⟨ab, cs, hab, _⟩ := row_blk hrt (Nat.succ_pos 0)
          have hv2' : v2.n = 2 := by have h8 : v2.n = v1.n + 1 := hv2; omega
          have hbel : Below g w w' := (q6.toBelow (B := g) (Nat.le_of_lt hg) (fun k hk e => by omega)).trans (hm.toBelow (B := g) (Nat.le_trans (Nat.le_of_lt hg) q6.size) (fun k hk e => by
            rcases e with e | e | e
            · omega
            · have := ownBase hst.2 e; omega
            · have := ownBase hrow' e; omega))
          have hrow3 : w'.ownsRow (g + 1) 69 1 v2.v 2 [parV kb, emptyV eb] := by rw [hv2'] at hrow2; exact hrow2
          have htx' : ({ r with links := some m, stack := st2, root := some ⟨d, 0, none⟩ } : PSr).texts = ⟨ta, 1, tc⟩ := htx
          have hrt' : w'.ownsRow (g + 1) 105 1 (Sl.v ({ r with links := some m, stack := st2, root := some ⟨d, 0, none⟩ } : PSr).texts) 1 [.pointer (some ⟨tb, 0, none⟩)] := by rw [htx']; exact hrt
          exact ⟨rfl, ta, hb.trans hbel, hpar.mod (Mod.below hbel (S := fun k => g ≤ k) (fun k _ h => h)) (by omega), { r with links := some m, stack := st2, root := some ⟨d, 0, none⟩ }, d, kb, tb, eb, ab, v2, tc, m, b, hps2, mp, rfl, hab, htx, hrt', hdoc, hv2', hrow3, hgt, ⟨sl, el, q2.mod hm (hne eb _ _ q2 (by omega) (by decide) (by decide))⟩, q3.mod hm (fun e => by
            rcases e with e | e | e
            · omega
            · exact map_ne hst1.2 q3.1 e
            · exact map_ne hrow1 q3.1 e) (hne b _ _ q3.2 (by omega) (by decide) (by decide)), by omega, .inl ⟨rfl, mb, rfl, mc, _, _, _, _, hp1.mod hm (hne kb _ _ hp1 (Blk.ne_ hP1 hps (by decide)) (by decide) (by decide)), hp2.mod hm (hne tb _ _ hp2 (by omega) (by decide) (by decide))⟩⟩
  at_ := by
    intro ta k w ⟨hb, hpar, r, d, kb, tb, eb, ab, v1, tc, m, b, hps, hrp, hroot, hta, htx, _⟩
    exact ⟨by omega, r, tc, hps, htx, parser_no2 o hpar ht⟩
  text := by
    intro ta k w ⟨hb, hpar, r, d, kb, tb, eb, ab, v1, tc, m, b, hps, hrp, hroot, hta, htx, hrt, hdoc, hv1, hrow, hgt, he, hK, hmg, hk⟩ hk1
    rcases hk with ⟨rfl, hbk, hlk, hco, sl, el, sl2, el2, hkp, hkt⟩ | ⟨rfl, _⟩
    · subst hta
      have hrt2 := hrt
      rw [htx] at hrt2
      obtain ⟨ab', cs, hab, hblk, _, _, _, hcl, _⟩ := row_blk hrt2 (Nat.succ_pos 0)
      simp only [Option.some.injEq, Addr.mk.injEq] at hab
      obtain ⟨rfl, _⟩ := hab
      have hgl := hps.lt
      have hrg : r.parser ≠ g := by rw [hrp]; omega
      refine ⟨ab, 0, tb, ⟨U.toArray⟩, rfl, hblk.at_ 0 (hcl 0 (by omega)), hkt.at_ 3 rfl, (hi g m b r w hps (by rw [hrp]; exact hpar) hrg hbk hlk hK hco).mono ?_⟩
      rintro e w' ⟨l, vs, outs, c, em, s2, bk, rfl, hps', hrl, hn, hits, hout, hm⟩
      have hkt' := hkt.mod hm (by omega)
      refine ⟨l.a, l.n, l.c, rfl, ⟨_, hkt'.at_ 2 rfl⟩, hkt'.free 2, ?_⟩
      have htg : tb ≠ g := by omega
      have hm2 : Mod (fun k => k = tb) w' (w'.setCell ⟨tb, 2, none⟩ (.slice l.a l.n l.c)) := (Mod.refl (fun k => k = tb) w').setCell (p := ⟨tb, 2, none⟩) (.inl rfl) _
      have hm3 := (hm.mono (S' := fun k => k = g ∨ k = tb) (fun _ _ h => .inl h)).trans hm2 (fun _ _ h => .inr h)
      have hg1 : g + 1 ≤ w.heap.size := hgl
      obtain ⟨sle, ele, he⟩ := he
      have hmt : m ≠ tb := by
        obtain ⟨⟨c0, cl, h3⟩, _⟩ := hK
        intro e
        subst e
        unfold Blk at hkt
        rw [hkt] at h3
        cases h3
      refine ⟨hb.trans (hm3.toBelow (B := g) (Nat.le_of_lt hgl) (fun k hk e => by omega)), hpar.mod hm3 (by omega), _, d, kb, tb, eb, ab, v1, tc, m, b, hps'.far (p := ⟨tb, 2, none⟩) (fun e => htg e.symm) _, hrp, hroot, rfl, htx, ?_, ?_, hv1, ?_, hgt, ⟨sle, ele, ?_⟩, ?_, hmg, .inr ⟨rfl, sl, el, sl2, el2, .string ⟨U.toArray⟩, l, vs, outs, ?_, ?_, ?_, hn, ?_, hout⟩⟩
      · exact own_mod hrt hm3 (fun q hq e => by
          rcases e with e | e
          · have := ownBase hrt hq.symm; omega
          · subst e; exact own_ne hrt hkt (by decide) hq.symm)
      · exact hdoc.mod hm3 (fun e => by
          rcases e with e | e
          · exact Blk.ne_ hdoc hps (by decide) e
          · exact Blk.ne_ hdoc hkt (by decide) e)
      · exact own_mod hrow hm3 (fun q hq e => by
          rcases e with e | e
          · have := ownBase hrow hq.symm; omega
          · subst e; exact own_ne hrow hkt (by decide) hq.symm)
      · exact he.mod hm3 (fun e => by
          rcases e with e | e
          · exact Blk.ne_ he hps (by decide) e
          · exact Blk.ne_ he hkt (by decide) e)
      · exact hK.mod hm3 (fun e => by
          rcases e with e | e
          · exact hmg e
          · exact hmt e) (fun e => by
          rcases e with e | e
          · exact Blk.ne_ hK.2 hps (by decide) e
          · exact Blk.ne_ hK.2 hkt (by decide) e)
      · exact hkp.mod hm3 (fun e => by
          rcases e with e | e
          · exact Blk.ne_ hkp hps (by decide) e
          · exact Blk.ne_ hkp hkt (by decide) e)
      · exact hkt'.set_ 2 _
      · exact own_base (own_far hrl (p := ⟨tb, 2, none⟩) (own_ne hrl hkt' (by decide)) _) hg1
      · exact (hits.mod hm2 (fun k ty cs hbk _ _ ht e => by subst e; exact Blk.ne_ hbk hkt' ht rfl)).base hg1
    · omega
theorem empty_prints (w : World) (b k : Nat) (bs : List UInt8) : Prints w b bs (emptyV k) [] := by
  refine ⟨_, _, 351, .pointer (some ⟨k, 0, none⟩), rfl, fun W => by kernel_rfl, Go.Proofs.enters_of Tryz.func351 (by kernel_rfl) rfl, fun B' W hk hbf hB hl => ?_⟩
  go_enter Tryz.func351, Tryz.ntmps351
  go_wp2_with fail
  go_end0
  exact ⟨rfl, by simpa using hbf, Below.refl _ _, Lib.OthersKept.refl _ _ _⟩
set_option maxRecDepth 20000 in
theorem HTML_ref (o : Opt) (bh : Bool) (D U out : List UInt8) (j : Nat) (w : World) (hDl : ParLine ⟨D.toArray⟩) (hUl : ParLine ⟨U.toArray⟩) (hDn : 10 ∉ D ∧ 13 ∉ D ∧ 0 ∉ D) (hUn : 10 ∉ U ∧ 13 ∉ U ∧ 0 ∉ U) (HD : RefText ⟨D.toArray⟩ j) (HU : ParaHead U) (ht : o.tasks = false) (hol : out.length ≤ 900000)
    (hi : InlCK o (refKey ⟨D.toArray⟩ j) ((ByteArray.mk D.toArray).extract (j + 3) (ByteArray.mk D.toArray).size) U out) (s : ByteArray) (hs : s = ⟨((if bh then U else D) ++ 10 :: ([] ++ 10 :: ((if bh then D else U) ++ 10 :: []))).toArray⟩) :
    Calls Tryz.prog 11 #[o.v, .string s] w fun e w' => e = .returned (.string ⟨(paraOut out).toArray⟩) ∧ Below w.heap.size w w' := by
  subst hs
  refine HTML_gen2 o _ w (paraOut out) (fun pb w1 hbw hblkp => ?_)
  have hdl : D.length ≤ 100000 := by have := hDl.size; rwa [sz_mk] at this
  have hul : U.length ≤ 100000 := by have := hUl.size; rwa [sz_mk] at this
  have hpb : pb < w1.heap.size := hblkp.lt
  have hpo := paraOut_len out
  have htl : ((if bh then U else D) ++ 10 :: ([] ++ 10 :: ((if bh then D else U) ++ 10 :: []))).length = D.length + U.length + 3 := by cases bh <;> simp <;> omega
  have h0 : (0 : UInt8) ∉ ((if bh then U else D) ++ 10 :: ([] ++ 10 :: ((if bh then D else U) ++ 10 :: []))) := by
    cases bh <;> simp [hDn.2.2, hUn.2.2]
  have hpar : Calls Tryz.prog 43 #[.pointer (some ⟨pb, 0, none⟩), .string ⟨((if bh then U else D) ++ 10 :: ([] ++ 10 :: ((if bh then D else U) ++ 10 :: []))).toArray⟩] w1 fun e w' => ∃ d c, e = .returned (.tuple #[.pointer (some ⟨d, 0, none⟩), .bool c]) ∧ DocPrints w' d (paraOut out) ∧ Below w1.heap.size w1 w' := by
    refine (parse_gen2 pb _ w1 1 (RInv pb w1.heap.size w1 o bh D U (refKey ⟨D.toArray⟩ j) ((ByteArray.mk D.toArray).extract (j + 3) (ByteArray.mk D.toArray).size)) (RFin pb w1.heap.size w1 o bh U out (refKey ⟨D.toArray⟩ j) ((ByteArray.mk D.toArray).extract (j + 3) (ByteArray.mk D.toArray).size)) (by omega) (idxB_not _ 0 h0) (by rw [htl]; exact refH pb w1.heap.size w1 o bh D U out j hpb hDl hUl ⟨hDn.1, hDn.2.1⟩ ⟨hUn.1, hUn.2.1⟩ HD HU ht hi) ?_).mono ?_
    · intro w' bn hps hb
      refine (addBlock_top (w1.heap.size + 1) w1.heap.size (ps0 pb) [] w' 98 (.pointer (some ⟨bn, 0, none⟩)) hps.lt hps ⟨rfl, World.ownsRow_nil _ _ _ _⟩ rfl (by simp)).mono ?_
      rintro e w2 ⟨rfl, v, hps1, hst, _, hm⟩
      refine ⟨rfl, ?_, ?_, v, some ⟨bn, 0, none⟩, .inl ⟨rfl, rfl, hps1, hst⟩⟩
      · exact hb.trans (hm.toBelow (B := w1.heap.size) hb.size (fun k hk e => by
          rcases e with e | e
          · omega
          · simp [ps0, Sl.nil, Value.ownBlock] at e))
      · refine (hblkp.mod (S := fun _ => False) (Mod.below' hb) (fun x => x)).mod hm (fun e => ?_)
        rcases e with e | e
        · omega
        · simp [ps0, Sl.nil, Value.ownBlock] at e
    · rintro e w' ⟨ta, r, k, rfl, hps, w0, ⟨hb, _, r0, d, kb, tb, eb, ab, v1, tc, m, b, hps0, _, hroot, _, _, _, hdoc, hv1, hrow, _, _, _, _, hk⟩, rfl⟩
      have h1 := hps.c1
      have h2 := hps0.c1
      rw [show (w0.drewN k).cell? ⟨w1.heap.size, 1, none⟩ = w0.cell? ⟨w1.heap.size, 1, none⟩ from rfl, h2, hroot] at h1
      simp only [Option.some.injEq, Value.pointer.injEq] at h1
      rw [← h1]
      rcases hk with ⟨h, _⟩ | ⟨_, hpar⟩
      · omega
      · refine ⟨d, _, rfl, ⟨0, 0, v1, some m, w1.heap.size + 1, (if bh then [parV kb, emptyV eb] else [emptyV eb, parV kb]), (if bh then [paraOut out, []] else [[], paraOut out]), hdoc, ?_, by omega, by cases bh <;> simp, by omega, by cases bh <;> rfl, ?_⟩, below_drewN hb k⟩
        · rw [hv1]; exact World.ownsRow.drewN hrow k
        · intro b' i y x hbz hy hx
          cases bh with
          | false =>
            match i with
            | 0 =>
              simp at hy hx
              subst hy hx
              exact empty_prints _ _ _ _
            | 1 =>
              simp at hy hx
              subst hy hx
              exact par_prints _ (w1.heap.size + 1) b' kb tb _ out hbz (hpar.drewN k)
            | i + 2 => simp at hy
          | true =>
            match i with
            | 0 =>
              simp at hy hx
              subst hy hx
              exact par_prints _ (w1.heap.size + 1) b' kb tb _ out hbz (hpar.drewN k)
            | 1 =>
              simp at hy hx
              subst hy hx
              exact empty_prints _ _ _ _
            | i + 2 => simp at hy
  go_enter Tryz.func29, Tryz.ntmps29
  go_wp2_with (go_at_call 43; refine hpar.mono ?_; rintro e w1 ⟨d, c, rfl, hd, hb⟩)
  all_goals go_ret
  all_goals exact ⟨d, rfl, hd, hb⟩
end Go.Proofs.YtmmijmhdbpldpaaGreatDoor
/- A paragraph is open: its next line; a line that begins a block of HTML; and the last line of such a block. -/



namespace Go.Proofs.YtmmijmhdbpldpaaGreatDoor
open Go.RowKit
@[reducible] def rootE (a : Option Addr) (v : Sl) (y : Int) : Ent := ⟨98, .pointer a, v, 0, y⟩
def ParMQ (B g qb : Nat) (r : PSr) (a : Option Addr) (i0 : Sl) (sl : Int) (v : Sl) (ls : List Value) (txt : List UInt8) (w w' : World) : Prop :=
  ∃ v', IsPS w' g { r with lineDepth := 0 } ∧ IsStack w' B r.stack ([] ++ [rootE a i0 r.lineno] ++ [parE qb sl r.lineno]) ∧ IsPara w' B qb v' (ls ++ [lineV txt]) ∧ v'.n = v.n + 1 ∧ Mod (fun k => g ≤ k) w w'
theorem BlE.par {B g qb : Nat} {r : PSr} {e0 : Ent} {sl el : Int} {v : Sl} {ls : List Value} {w w1 : World} (h : BlE B g r e0 qb sl el w w1) (hp : IsPara w B qb v ls) : IsPara w1 B qb v ls :=
  ⟨h.2.2.1.blk hp.1 (by decide) (by decide) (by decide), h.2.2.1.own hp.2.1 (by decide) (by decide) (by decide), hp.2.2⟩
/-- While a paragraph is open, no block of HTML begins with the line. -/
def DeclH (s : ByteArray) : Prop := ∀ (B g qb : Nat) (r : PSr) (e0 : Ent) (sl el nl : Int) (w w1 : World), BlE B g r e0 qb sl el w w1 → Calls Tryz.prog 90 #[.pointer (some ⟨g, 0, none⟩), lnV 0 0 s nl] w1 fun e w' => e = .returned (.tuple #[lnV 0 0 s nl, .bool false]) ∧ Below w1.heap.size w1 w'
theorem OverL.declH {s : ByteArray} (h : OverL s) (h60 : bt s 0 ≠ 60) : DeclH s := fun _ g _ _ _ _ _ nl _ w1 _ =>
  newHTML_no g 0 0 nl s w1 (by have := h.size; omega) (Nat.zero_le _) h.tab (fun k hk => by rw [reach0 h.c.1 hk]; exact h60)
theorem addLine_parM (B g qb : Nat) (r : PSr) (a : Option Addr) (i0 : Sl) (y sl el nl : Int) (v : Sl) (ls : List Value) (s : ByteArray) (w : World) (hgB : g < B) (hB : B ≤ w.heap.size) (hps : IsPS w g r) (hst : IsStack w B r.stack ([] ++ [rootE a i0 y] ++ [parE qb sl el])) (hpar : IsPara w B qb v ls) (hvn : v.n ≤ 100000)
    (hs : OverL s) (hd : DeclH s) (hpg : r.parser < g) (htb : w.cell? ⟨r.parser, 5, none⟩ = some (.bool false)) :
    Calls Tryz.prog 54 #[.pointer (some ⟨g, 0, none⟩), lnV 0 0 s nl] w fun e w' => e = .returned (.tuple #[]) ∧ ParMQ B g qb r a i0 sl v ls s.data.toList w w' := by
  have hsz := hs.size
  have hgs : g ≤ w.heap.size := Nat.le_of_lt hps.lt
  refine addLine_overP B g qb r (rootE a i0 y) sl el nl s w _ 8 hgB hps hst hs.size (hs.nblank nl) ?_ (Nat.le_refl _) (fun i f w1 hi hf hE => by
    by_cases h5 : i = 5
    · subst h5
      cases hf
      exact hd B g qb r _ sl el nl w w1 hE
    · exact hs.decl hE i f hi (fun e => absurd e h5) hf) (fun f w1 hf _ => by cases hf) (fun _ w1 hE => ?_)
  · rintro w1 w2 ⟨v', h1, h2, h3, h4, h5⟩ hk
    exact ⟨v', h1.lnKept hk, h2.lnKept hk, h3.lnKept hk, h4, h5.lnKept hk hgs⟩
  · have hp1 := hE.par hpar
    obtain ⟨h1, h2, h3, h4⟩ := hE
    have htb1 : w1.cell? ⟨r.parser, 5, none⟩ = some (.bool false) := by
      rw [h4.cell (p := ⟨r.parser, 5, none⟩) (by show r.parser < _; omega) (by show ¬ g ≤ r.parser; omega)]
      exact htb
    refine (newPara_more B g qb _ (rootE a i0 y) sl el v ls 0 nl s w1 (Nat.le_trans hB h4.size) h1 h2 rfl hp1 hvn (by omega) (Nat.zero_le _) htb1).mono ?_
    rintro e w2 ⟨rfl, v', q1, q2, q3, q4, q5⟩
    rw [List.drop_zero, hs.trim] at q3
    refine ⟨⟨_, rfl⟩, v', q1, q2, q3, q4, h4.trans q5 (fun k hk e => ?_)⟩
    rcases e with e | e | e
    · have := hp1.2.2; omega
    · have := ownBase h2.2 e; omega
    · have := ownBase hp1.2.1 e; omega
/-- trimStack as trim_leaf1; the row of the open blocks stays where it is. -/
def LeafP2 (B g : Nat) (r : PSr) (e1 : Ent) (bs : List Value) (u : TypeId) (Q : PSr → Nat → World → Prop) (w' : World) : Prop :=
  ∃ (r' : PSr) (k : Nat) (w1 : World) (v st : Sl), Q r' k w1 ∧ IsPS w' g { r' with stack := st } ∧ IsStack w' B st ([] ++ [{ e1 with inner := v }]) ∧ st.v.ownBlock = r.stack.v.ownBlock ∧ v.n = e1.inner.n + 1 ∧ w'.ownsRow B 69 1 v.v v.n (bs ++ [.iface u (.pointer (some ⟨k, 0, none⟩))]) ∧
    Mod (fun k => k = g ∨ some k = r.stack.v.ownBlock ∨ some k = e1.inner.v.ownBlock) w1 w'
set_option maxRecDepth 20000 in
set_option maxHeartbeats 1600000 in
theorem trim_leaf1b (B g : Nat) (r : PSr) (e1 e0 : Ent) (bs : List Value) (u : TypeId) (Q : PSr → Nat → World → Prop) (w : World) (hps : IsPS w g r) (hst : IsStack w B r.stack ([] ++ [e1] ++ [e0]))
    (hcl : Calls Tryz.prog 63 #[.pointer (some ⟨g, 0, none⟩)] w (CloseP2 B g r [] e1 bs u Q)) :
    Calls Tryz.prog 55 #[.pointer (some ⟨g, 0, none⟩), .int .i64 1] w fun e w' => e = .returned (.tuple #[]) ∧ LeafP2 B g r e1 bs u Q w' := by
  have hsn : r.stack.n = 2 := hst.1
  have c4 := hps.c4
  rw [hsn] at c4
  have HCL := hid hcl
  clear hcl hps hst
  go_enter Tryz.func55, Tryz.ntmps55
  go_wp2_with fail
  refine wp_loop_rounds 2 ?_
  rw [rounds_succ]
  go_wp2_with fail
  refine HCL.out.mono ?_
  rintro e w2 ⟨r', k, w1, v, st, rfl, hq, hps2, hst2, hob, hv, hin, hm⟩
  have hst2n : st.n = 1 := hst2.1
  have d4 := hps2.c4
  rw [show ({ r' with stack := st } : PSr).stack = st from rfl, hst2n] at d4
  have H := hid (show LeafP2 B g r e1 bs u Q w2 from ⟨r', k, w1, v, st, hq, hps2, hst2, hob, hv, hin, hm⟩)
  clear hq hps2 hst2 hob hv hin hm hst2n
  go_wp2_with fail
  rw [rounds_succ]
  go_wp2_with fail
  go_end0
  exact ⟨rfl, H.out⟩
/-- A paragraph lies closed, a block of HTML is open. -/
def HtmO (B g : Nat) (r : PSr) (a : Option Addr) (y : Int) (txt : List UInt8) (hb : Nat) (ws : List Value) (k : EndK) (w w' : World) : Prop :=
  ∃ (st v1 l v : Sl) (fn : Value) (kb tb : Nat) (z : Int), IsPS w' g { r with lineDepth := 0, texts := l, stack := st } ∧ IsStack w' B st ([] ++ [rootE a v1 y] ++ [htmE hb r.lineno z]) ∧ v1.n = 1 ∧ w'.ownsRow B 69 1 v1.v 1 [parV kb] ∧ ClP w' kb tb txt ∧
    w'.ownsRow B 105 1 l.v 1 [.pointer (some ⟨tb, 0, none⟩)] ∧ l.n = 1 ∧ g < tb ∧ IsHtm w' B hb k.blank v ws fn k ∧ v.n = ws.length ∧ Mod (fun k => g ≤ k) w w'
theorem addBlock_overP (B g qb base hb : Nat) (r : PSr) (a : Option Addr) (y sl : Nat) (el : Int) (v : Sl) (xs : List ByteArray) (w wA W : World) (hgB : g < B) (hB : B ≤ wA.heap.size) (hbs : wA.heap.size = base) (hE : BlE B g r (rootE a Sl.nil y) qb sl el w wA) (hpar : IsPara wA B qb v (strsV xs)) (hvn : v.n = xs.length)
    (htx : r.texts = Sl.nil) (hs0 : sl ≤ 1000000) (hx0 : 0 < xs.length) (hxn : xs.length ≤ 1000000) (hT : ParaHead (joinT xs)) (hW : Below wA.heap.size wA W) :
    Calls Tryz.prog 52 #[.pointer (some ⟨g, 0, none⟩), .iface 282 (.pointer (some ⟨hb, 0, none⟩))] W fun e w' => e = .returned (.tuple #[]) ∧ Mod (fun k => k < base) W w' ∧
      ((∀ lb cs, Blk wA lb 104 cs → Blk w' lb 104 cs) ∧ ∃ (st v1 l : Sl) (kb tb : Nat), IsPS w' g { r with lineDepth := 0, texts := l, stack := st } ∧ IsStack w' B st ([] ++ [rootE a v1 y] ++ [htmE hb r.lineno r.lineno]) ∧ v1.n = 1 ∧ w'.ownsRow B 69 1 v1.v 1 [parV kb] ∧ ClP w' kb tb (joinT xs) ∧
        w'.ownsRow B 105 1 l.v 1 [.pointer (some ⟨tb, 0, none⟩)] ∧ l.n = 1 ∧ g < tb ∧ Mod (fun k => g ≤ k) w w') := by
  subst hbs
  obtain ⟨h1, h2, h3, h4⟩ := hE
  have p1 : IsPS W g { r with lineDepth := 0 } := h1.below hW
  have p2 := h2.below hW
  have p3 : IsPara W B qb v (strsV xs) := ⟨hpar.1.mod (Mod.below' (S := fun _ => False) hW) (fun x => x), own_mod hpar.2.1 (Mod.below' (S := fun _ => False) hW) (fun _ _ x => x), hpar.2.2⟩
  have hBW : B ≤ W.heap.size := Nat.le_trans hB hW.size
  have hgA := h1.lt
  refine (addBlock_gen B g { r with lineDepth := 0 } W 282 (.pointer (some ⟨hb, 0, none⟩)) (fun r1 es w1 => ∃ (r' : PSr) (kb : Nat) (w0 : World) (v1 st : Sl), IsPS w1 g r1 ∧ IsStack w1 B st ([] ++ [rootE a v1 y]) ∧ ParaQ B { r with lineDepth := 0 } sl xs.length (joinT xs) [] g W r' kb w0 ∧ r1 = { r' with stack := st } ∧ es = [] ++ [rootE a v1 y] ∧ st.v.ownBlock = r.stack.v.ownBlock ∧ v1.n = 1 ∧ w1.ownsRow B 69 1 v1.v v1.n [parV kb] ∧ Mod (fun k => k = g ∨ some k = r.stack.v.ownBlock) w0 w1) p1 (by show (-1 : Int) ≤ 0; omega) (by show (0 : Int) ≤ 1000000; omega) ?_).mono ?_
  · refine (trim_leaf1b B g { r with lineDepth := 0 } (rootE a Sl.nil y) (parE qb sl el) [] 153 _ W p1 p2 (closePara_any B g qb _ (rootE a Sl.nil y) [] v xs [] sl el W hBW p1 p2 (World.ownsRow_nil _ _ _ _) (by show 0 ≤ 1000000; omega) p3 hvn (by rw [htx]; exact World.ownsRow_nil _ _ _ _) (by rw [htx]; show 0 ≤ 1000000; omega) hs0 hx0 hxn hT)).mono ?_
    rintro e w1 ⟨rfl, r', kb, w0, v1, st, hq, q1, q2, q3, q4, q5, q6⟩
    have hz : W.heap.size ≤ w1.heap.size := by
      obtain ⟨_, _, _, _, _, _, _, _, _, hm⟩ := hq
      exact Nat.le_trans hm.size q6.size
    refine ⟨rfl, { r' with stack := st }, _, Nat.le_trans hBW hz, q1, q2, by simp, r', kb, w0, v1, st, q1, q2, hq, rfl, rfl, q3, q4, q5, q6.mono (fun k _ e => ?_)⟩
    rcases e with e | e | e
    · exact .inl e
    · exact .inr e
    · cases e
  · rintro e w' ⟨rfl, r1, es, w1, vv, ⟨r', kb, w0, v1, st, hpw1, hsw1, ⟨tb, l, rfl, d2, d3, d4, d5, d6, d6', d7⟩, rfl, rfl, hso, hv1, hrow, hm1⟩, hz, hps', hst', hown, hm2⟩
    have hd7 : Mod (fun k => k = g ∨ some k = r.stack.v.ownBlock) W w0 := d7.mono (fun k _ e => by
      rcases e with e | e
      · exact .inl e
      · rw [show ({ r with lineDepth := 0 } : PSr).texts = r.texts from rfl, htx] at e; cases e)
    have hm2' : Mod (fun k => k = g ∨ some k = r.stack.v.ownBlock) w1 w' := hm2.mono (fun k _ e => by
      rcases e with e | e
      · exact .inl e
      · exact .inr (by rw [e]; exact hso))
    have hM12 : Mod (fun k => k = g ∨ some k = r.stack.v.ownBlock) w0 w' := hm1.trans hm2' (fun _ _ h => h)
    have hM : Mod (fun k => k = g ∨ some k = r.stack.v.ownBlock) W w' := hd7.trans hM12 (fun _ _ h => h)
    have hst0' : IsStack w0 B r.stack ([] ++ [rootE a Sl.nil y] ++ [parE qb sl el]) := by
      refine p2.mod d7 (fun k hk e => ?_)
      rcases e with e | e
      · subst e; exact own_ne p2.2 p1 (by decide) hk.symm
      · rw [show ({ r with lineDepth := 0 } : PSr).texts = r.texts from rfl, htx] at e; cases e
    have hst0 := hst0'.2
    have hge : ∀ k, (k = g ∨ some k = r.stack.v.ownBlock) → g ≤ k := fun k e => by
      rcases e with e | e
      · omega
      · have := ownBase h2.2 e; omega
    have hlt : ∀ k, (k = g ∨ some k = r.stack.v.ownBlock) → k < wA.heap.size := fun k e => by
      rcases e with e | e
      · omega
      · exact ownLt h2.2 e
    have hWg : wA.heap.size ≤ W.heap.size := hW.size
    refine ⟨rfl, hM.mono (fun k _ e => hlt k e), fun lb cs hb => ?_, vv, v1, l, kb, tb, hps', hst', hv1, ?_, ⟨_, _, _, _, d4.mod hM12 ?_, d5.mod hM12 ?_⟩, ?_, ?_, by omega, ?_⟩
    · have hbW : Blk W lb 104 cs := hb.mod (Mod.below' (S := fun _ => False) hW) (fun x => x)
      refine hbW.mod hM (fun e => ?_)
      rcases e with e | e
      · exact Blk.ne_ hbW p1 (by decide) e
      · exact own_ne p2.2 hbW (by decide) e
    · have h := own_mod hrow hm2' (fun k hk e => by
        rcases e with e | e
        · subst e; exact own_ne hrow hpw1 (by decide) hk.symm
        · exact ownApart hrow hsw1.2 (by decide) hk (by rw [hso]; exact e.symm))
      rw [hv1] at h
      exact h
    · intro e
      rcases e with e | e
      · omega
      · exact own_ne hst0 d4 (by decide) e
    · intro e
      rcases e with e | e
      · omega
      · exact own_ne hst0 d5 (by decide) e
    · have h := own_mod d6 hM12 (fun k hk e => by
        rcases e with e | e
        · have := ownBase d6 hk.symm; omega
        · exact ownApart d6 hst0 (by decide) hk e.symm)
      have hl1 : l.n = 1 := by rw [d6', show ({ r with lineDepth := 0 } : PSr).texts = r.texts from rfl, htx]; rfl
      rw [hl1] at h
      exact h
    · rw [d6', show ({ r with lineDepth := 0 } : PSr).texts = r.texts from rfl, htx]; rfl
    · exact (h4.trans (Mod.below' (S := fun k => g ≤ k) hW) (fun _ _ h => h)).trans hM (fun k _ e => hge k e)
end Go.Proofs.YtmmijmhdbpldpaaGreatDoor
/- A line that begins a block of HTML behind a paragraph, and the last line of such a block. -/

namespace Go.Proofs.YtmmijmhdbpldpaaGreatDoor
open Go.RowKit
theorem IsEndF.mod {w w' : World} {B : Nat} {row : Option Nat} {fn : Value} {k : EndK} {S : Nat → Prop} (h : IsEndF w B row fn k) (hm : Mod S w w') (hn : ∀ b cs, Blk w b 9 cs → row ≠ some b → B ≤ b → ¬ S b) : IsEndF w' B row fn k := by
  cases k with
  | non => exact h
  | pre => exact h
  | str q =>
    obtain ⟨ex, e1, e2, e3, e4⟩ := h
    exact ⟨ex, e1, e2.mod hm (hn ex _ e2 e4 e3), e3, e4⟩
theorem IsHtm.lnKept {base B hb : Nat} {eb : Bool} {v : Sl} {ls : List Value} {fn : Value} {k : EndK} {w w' : World} (h : IsHtm w B hb eb v ls fn k) (hk : LnKept base w w') : IsHtm w' B hb eb v ls fn k :=
  ⟨h.1.lnKept hk (by decide), own_lnKept h.2.1 hk (by decide), h.2.2.1, h.2.2.2.mod hk (fun b cs hb _ _ ⟨_, x, hx⟩ => Blk.ne_ hb hx (by decide) rfl)⟩
theorem IsHtm.mod {B hb : Nat} {eb : Bool} {v : Sl} {ls : List Value} {fn : Value} {k : EndK} {w w' : World} {S : Nat → Prop} (h : IsHtm w B hb eb v ls fn k) (hm : Mod S w w') (h1 : ¬ S hb) (h2 : ∀ b, v.v.ownBlock = some b → ¬ S b) (h3 : ∀ b cs, Blk w b 9 cs → ¬ S b) : IsHtm w' B hb eb v ls fn k :=
  ⟨h.1.mod hm h1, own_mod h.2.1 hm h2, h.2.2.1, h.2.2.2.mod hm (fun b cs hb _ _ => h3 b cs hb)⟩
theorem HtmO.lnKept {base B g : Nat} {r : PSr} {a : Option Addr} {y : Int} {txt : List UInt8} {hb : Nat} {ws : List Value} {k : EndK} {w w1 w2 : World} (h : HtmO B g r a y txt hb ws k w w1) (hk : LnKept base w1 w2) (hg : g ≤ base) : HtmO B g r a y txt hb ws k w w2 := by
  obtain ⟨st, v1, l, v, fn, kb, tb, z, q1, q2, q3, q4, q5, q6, q7, q8, q9, q10, q11⟩ := h
  exact ⟨st, v1, l, v, fn, kb, tb, z, q1.lnKept hk, q2.lnKept hk, q3, own_lnKept q4 hk (by decide), q5.keep (KeepD.lnKept hk), own_lnKept q6 hk (by decide), q7, q8, q9.lnKept hk, q10, q11.lnKept hk hg⟩
/-- What startHTML does with a line, whatever addBlock leaves. -/
def StartsAs (B g : Nat) (s : ByteArray) (nl : Int) (k : EndK) : Prop :=
  ∀ (base pk : Nat) (S : Nat → World → Prop) (W : World), B ≤ base → base ≤ pk → IsLn W pk 0 0 s nl →
    (∀ hb W', base ≤ hb → Below W.heap.size W W' → Calls Tryz.prog 52 #[.pointer (some ⟨g, 0, none⟩), .iface 282 (.pointer (some ⟨hb, 0, none⟩))] W' fun e w' => e = .returned (.tuple #[]) ∧ Mod (fun k => k < base) W' w' ∧ S hb w') →
    Calls Tryz.prog 140 #[.pointer (some ⟨g, 0, none⟩), .pointer (some ⟨pk, 0, none⟩)] W fun e w' => e = .returned (.bool true) ∧ StartP B base S k s W w'
theorem addLine_htmO (B g qb : Nat) (r : PSr) (a : Option Addr) (y sl : Nat) (el nl : Int) (v : Sl) (xs : List ByteArray) (s : ByteArray) (k : EndK) (w : World) (hgB : g < B) (hB : B ≤ w.heap.size) (hps : IsPS w g r) (hst : IsStack w B r.stack ([] ++ [rootE a Sl.nil y] ++ [parE qb sl el])) (hpar : IsPara w B qb v (strsV xs)) (hvn : v.n = xs.length)
    (htx : r.texts = Sl.nil) (hs0 : sl ≤ 1000000) (hx0 : 0 < xs.length) (hxn : xs.length ≤ 1000000) (hT : ParaHead (joinT xs)) (hs : OverL s) (hstart : StartsAs B g s nl k) :
    Calls Tryz.prog 54 #[.pointer (some ⟨g, 0, none⟩), lnV 0 0 s nl] w fun e w' => e = .returned (.tuple #[]) ∧ ∃ hb, HtmO B g r a y (joinT xs) hb [.string s] k w w' := by
  have hgs : g ≤ w.heap.size := Nat.le_of_lt hps.lt
  refine addLine_overP B g qb r (rootE a Sl.nil y) sl el nl s w _ 5 hgB hps hst hs.size (hs.nblank nl) ?_ (by omega) (fun i f w1 hi hf hE => hs.decl hE i f (by omega) (fun e => by omega) hf) (fun f w1 hf hE => ?_) (fun h => by omega)
  · rintro w1 w2 ⟨hb, h⟩ hk
    exact ⟨hb, h.lnKept hk hgs⟩
  · cases hf
    have hp1 := hE.par hpar
    have hz1 : w.heap.size ≤ w1.heap.size := hE.2.2.2.size
    have hB1 : B ≤ w1.heap.size := Nat.le_trans hB hz1
    have hg1 : g < w1.heap.size := hE.1.lt
    refine (newHTML_yes B g _ k s nl w1 (fun W pk hW hpk hln => hstart w1.heap.size pk _ W hB1 hpk hln (fun hb W' _ hW' => addBlock_overP B g qb w1.heap.size hb r a y sl el v xs w w1 W' hgB hB1 rfl hE hp1 hvn htx hs0 hx0 hxn hT (hW.trans (hW'.mono hW.size))))).mono ?_
    rintro e w2 ⟨rfl, hb, hv, fn, wS, ⟨hlk, st, v1, l, kb, tb, q1, q2, q3, q4, q5, q6, q7, q8, q9⟩, hhb, hsz, hh, hv1, hm, hrb, cs, hbk⟩
    have hne : ∀ ty cs' b, Blk wS b ty cs' → ty ≠ 284 → ty ≠ 104 → ¬ (b = hb ∨ b = w1.heap.size + 1) := fun ty cs' b hb' h1 h2 e => by
      rcases e with e | e
      · subst e; exact Blk.ne_ hb' hbk h1 rfl
      · subst e; exact Blk.ne_ hb' hrb h2 rfl
    have hno : ∀ {e' : TypeId} {sz n : Nat} {v' : Value} {xs' : List Value}, wS.ownsRow B e' sz v' n xs' → e' ≠ 284 → e' ≠ 104 → ∀ b, v'.ownBlock = some b → ¬ (b = hb ∨ b = w1.heap.size + 1) := fun h h1 h2 b hb' e => by
      rcases e with e | e
      · subst e; exact own_ne h hbk h1 hb'.symm
      · subst e; exact own_ne h hrb h2 hb'.symm
    obtain ⟨p1, p2, p3, p4, q5a, q5b⟩ := q5
    refine ⟨rfl, ⟨hb, st, v1, l, hv, fn, kb, tb, _, q1.mod hm (hne _ _ _ q1 (by decide) (by decide)), q2.mod hm (hno q2.2 (by decide) (by decide)), q3, own_mod q4 hm (hno q4 (by decide) (by decide)), ⟨p1, p2, p3, p4, q5a.mod hm (hne _ _ _ q5a (by decide) (by decide)), q5b.mod hm (hne _ _ _ q5b (by decide) (by decide))⟩, own_mod q6 hm (hno q6 (by decide) (by decide)), q7, q8, hh, hv1, q9.trans hm (fun b _ e => by omega)⟩, Nat.le_trans (Nat.le_trans (by have := hrb.lt; omega) (Nat.le_refl wS.heap.size)) hsz, fun lb cs' hl => ?_⟩
    refine (hlk lb cs' hl).mod hm (fun e => ?_)
    have hll := hl.lt
    omega
end Go.Proofs.YtmmijmhdbpldpaaGreatDoor
/- The last line of a block of HTML: the block is closed, or, where only a blank line ends it, stays open. -/

namespace Go.Proofs.YtmmijmhdbpldpaaGreatDoor
open Go.RowKit
/-- What lies beside the open block of HTML. -/
def HtmX (B g : Nat) (r : PSr) (v1 : Sl) (kb tb : Nat) (txt : List UInt8) (w : World) : Prop :=
  w.ownsRow B 69 1 v1.v 1 [parV kb] ∧ ClP w kb tb txt ∧ w.ownsRow B 105 1 r.texts.v 1 [.pointer (some ⟨tb, 0, none⟩)] ∧ g < tb
theorem HtmX.mod {B g : Nat} {r : PSr} {v1 : Sl} {kb tb : Nat} {txt : List UInt8} {w w' : World} {S : Nat → Prop} (h : HtmX B g r v1 kb tb txt w) (hm : Mod S w w')
    (hn : ∀ b ty cs, Blk w b ty cs → ty = 69 ∨ ty = 155 ∨ ty = 110 ∨ ty = 105 → ¬ S b) : HtmX B g r v1 kb tb txt w' := by
  obtain ⟨h1, ⟨p1, p2, p3, p4, h2, h3⟩, h4, h5⟩ := h
  have own : ∀ {e : TypeId} {sz n : Nat} {v : Value} {xs : List Value}, w.ownsRow B e sz v n xs → (e = 69 ∨ e = 155 ∨ e = 110 ∨ e = 105) → w'.ownsRow B e sz v n xs := fun hr he => own_mod hr hm (fun k hk => by
    rcases hr.2 with ⟨e1, _⟩ | ⟨gb, cap, cur, e1, _, hh, _⟩
    · rw [e1] at hk; cases hk
    · rw [e1] at hk
      obtain rfl : gb = k := Option.some.inj hk
      exact hn _ _ _ hh he)
  exact ⟨own h1 (.inl rfl), ⟨p1, p2, p3, p4, h2.mod hm (hn _ _ _ h2 (.inr (.inl rfl))), h3.mod hm (hn _ _ _ h3 (.inr (.inr (.inl rfl))))⟩, own h4 (.inr (.inr (.inr rfl))), h5⟩
theorem HtmX.lnKept {base B g : Nat} {r : PSr} {v1 : Sl} {kb tb : Nat} {txt : List UInt8} {w w' : World} (h : HtmX B g r v1 kb tb txt w) (hk : LnKept base w w') : HtmX B g r v1 kb tb txt w' :=
  h.mod hk (fun b ty cs hb ht ⟨_, x, hx⟩ => Blk.ne_ hb hx (by rcases ht with rfl | rfl | rfl | rfl <;> decide) rfl)
def HtmJ (B g : Nat) (r : PSr) (dp : Int) (a : Option Addr) (v1 : Sl) (y : Int) (hb kb tb : Nat) (txt : List UInt8) (sl z : Int) (v : Sl) (ws : List Value) (fn : Value) (k : EndK) (w w' : World) : Prop :=
  IsPS w' g { r with lineDepth := dp } ∧ IsStack w' B r.stack ([] ++ [rootE a v1 y] ++ [htmE hb sl z]) ∧ IsHtm w' B hb k.blank v ws fn k ∧ HtmX B g r v1 kb tb txt w' ∧ Mod (fun k => g ≤ k) w w'
theorem HtmJ.lnKept {base B g : Nat} {r : PSr} {dp : Int} {a : Option Addr} {v1 : Sl} {y : Int} {hb kb tb : Nat} {txt : List UInt8} {sl z : Int} {v : Sl} {ws : List Value} {fn : Value} {k : EndK} {w w1 w2 : World} (h : HtmJ B g r dp a v1 y hb kb tb txt sl z v ws fn k w w1) (hk : LnKept base w1 w2) (hg : g ≤ base) : HtmJ B g r dp a v1 y hb kb tb txt sl z v ws fn k w w2 :=
  ⟨h.1.lnKept hk, h.2.1.lnKept hk, h.2.2.1.lnKept hk, h.2.2.2.1.lnKept hk, h.2.2.2.2.lnKept hk hg⟩
/-- The block lies closed. -/
def HtmE1 (B g : Nat) (r : PSr) (a : Option Addr) (y : Int) (txt : List UInt8) (ws : List Value) (w w' : World) : Prop :=
  ∃ (st v1 v : Sl) (kb tb hk : Nat) (sl z : Int), IsPS w' g { r with lineDepth := 0, stack := st } ∧ IsStack w' B st ([] ++ [rootE a v1 y]) ∧ v1.n = 2 ∧ w'.ownsRow B 69 1 v1.v 2 [parV kb, htmV hk] ∧ ClP w' kb tb txt ∧
    w'.ownsRow B 105 1 r.texts.v 1 [.pointer (some ⟨tb, 0, none⟩)] ∧ g < tb ∧ Blk w' hk 372 #[.int .i64 sl, .int .i64 z, v.v] ∧ w'.ownsRow B 9 1 v.v v.n ws ∧ v.n = ws.length ∧ Mod (fun k => g ≤ k) w w'
theorem HtmE1.lnKept {base B g : Nat} {r : PSr} {a : Option Addr} {y : Int} {txt : List UInt8} {ws : List Value} {w w1 w2 : World} (h : HtmE1 B g r a y txt ws w w1) (hk : LnKept base w1 w2) (hg : g ≤ base) : HtmE1 B g r a y txt ws w w2 := by
  obtain ⟨st, v1, v, kb, tb, hk', sl, z, q1, q2, q3, q4, q5, q6, q7, q8, q9, q10, q11⟩ := h
  exact ⟨st, v1, v, kb, tb, hk', sl, z, q1.lnKept hk, q2.lnKept hk, q3, own_lnKept q4 hk (by decide), q5.keep (KeepD.lnKept hk), own_lnKept q6 hk (by decide), q7, q8.lnKept hk (by decide), own_lnKept q9 hk (by decide), q10, q11.lnKept hk hg⟩
theorem trimHtm (B g hb : Nat) (r : PSr) (a : Option Addr) (v1 : Sl) (y : Int) (kb tb : Nat) (txt : List UInt8) (sl z : Int) (v : Sl) (ws : List Value) (fn : Value) (k : EndK) (w w1 : World) (hgB : g < B) (hB : B ≤ w.heap.size) (h : HtmJ B g r 0 a v1 y hb kb tb txt sl z v ws fn k w w1) (hv1 : v1.n = 1) (hvn : v.n = ws.length) :
    Calls Tryz.prog 55 #[.pointer (some ⟨g, 0, none⟩), .int .i64 1] w1 fun e w' => e = .returned (.tuple #[]) ∧ HtmE1 B g r a y txt ws w w' := by
  obtain ⟨h1, h2, h3, h4, h5⟩ := h
  have hB1 : B ≤ w1.heap.size := Nat.le_trans hB h5.size
  have hx1 : w1.ownsRow B 69 1 v1.v v1.n [parV kb] := by
    have h := h4.1
    rw [hv1]
    exact h
  refine (trim_leaf1b B g { r with lineDepth := 0 } (rootE a v1 y) (htmE hb sl z) [parV kb] 370 _ w1 h1 h2 (closeHtm_any B g hb _ (rootE a v1 y) [parV kb] k.blank v ws fn k sl z w1 hB1 h1 h2 hx1 (by show v1.n ≤ 1000000; omega) h3)).mono ?_
  rintro e w2 ⟨rfl, r', d, w0, v2, st, ⟨rfl, d1, d2, d3, d4⟩, q1, q2, q3, q4, q5, q6⟩
  have hv2 : v2.n = 2 := by rw [q4]; show v1.n + 1 = 2; omega
  rw [hv2] at q5
  have hx0 : HtmX B g r v1 kb tb txt w0 := h4.mod (Mod.below' (S := fun _ => False) d4) (fun _ _ _ _ _ x => x)
  have hst0 : IsStack w0 B r.stack ([] ++ [rootE a v1 y] ++ [htmE hb sl z]) := h2.below d4
  have hg0 : g < w1.heap.size := h1.lt
  have hS : ∀ b ty cs, Blk w0 b ty cs → ty ≠ 121 → ty ≠ 69 → b ≠ g → ¬ (b = g ∨ some b = r.stack.v.ownBlock ∨ some b = v1.v.ownBlock) := fun b ty cs hb t1 t2 hbg e => by
    rcases e with e | e | e
    · exact hbg e
    · exact own_ne hst0.2 hb t1.symm e
    · exact own_ne hx0.1 hb t2.symm e
  have hps0 : IsPS w0 g { r with lineDepth := 0 } := h1.below d4
  obtain ⟨x1, ⟨p1, p2, p3, p4, x2, x3⟩, x4, x5⟩ := hx0
  refine ⟨rfl, st, v2, v, kb, tb, d, sl, z, q1, q2, hv2, q5, ⟨p1, p2, p3, p4, x2.mod q6 (hS _ _ _ x2 (by decide) (by decide) (Blk.ne_ x2 hps0 (by decide))), x3.mod q6 (hS _ _ _ x3 (by decide) (by decide) (Blk.ne_ x3 hps0 (by decide)))⟩, own_mod x4 q6 (fun b hb e => ?_), x5, d2.mod q6 (hS _ _ _ d2 (by decide) (by decide) (by omega)), own_mod d3 q6 (fun b hb e => ?_), hvn, (h5.trans (Mod.below' (S := fun k => g ≤ k) d4) (fun _ _ h => h)).trans q6 (fun b _ e => ?_)⟩
  · rcases e with e | e | e
    · subst e; exact own_ne x4 hps0 (by decide) hb.symm
    · exact ownApart x4 hst0.2 (by decide) hb e.symm
    · exact ownApart x4 x1 (by decide) hb e.symm
  · rcases e with e | e | e
    · subst e; exact own_ne d3 hps0 (by decide) hb.symm
    · exact ownApart d3 hst0.2 (by decide) hb e.symm
    · exact ownApart d3 x1 (by decide) hb e.symm
  · rcases e with e | e | e
    · omega
    · have := ownBase hst0.2 e; omega
    · have := ownBase x1 e; omega
end Go.Proofs.YtmmijmhdbpldpaaGreatDoor
/- A further line of an open block of HTML. -/

namespace Go.Proofs.YtmmijmhdbpldpaaGreatDoor
open Go.RowKit
theorem HtmJ.far {B g : Nat} {r : PSr} {dp : Int} {a : Option Addr} {v1 : Sl} {y : Int} {hb kb tb sb cap : Nat} {txt : List UInt8} {sl z x : Int} {v : Sl} {ws : List Value} {fn : Value} {k : EndK} {w w1 : World} (h : HtmJ B g r dp a v1 y hb kb tb txt sl z v ws fn k w w1) (hs : r.stack = ⟨some ⟨sb, 0, none⟩, 2, cap⟩) (hgB : g < B) :
    HtmJ B g r dp a v1 y hb kb tb txt sl x v ws fn k w (w1.setCell ⟨sb, (0 + 1) * 4 + 3, none⟩ (.int .i64 x)) := by
  obtain ⟨h1, h2, h3, h4, h5⟩ := h
  obtain ⟨sb', cap', cs2, e1, hsb2, _, _, hBs⟩ := h2.shape (by simp)
  rw [hs] at e1
  simp only [Sl.mk.injEq, Option.some.injEq, Addr.mk.injEq] at e1
  obtain ⟨⟨rfl, _⟩, _⟩ := e1
  have hm : Mod (fun k => k = sb) w1 (w1.setCell ⟨sb, (0 + 1) * 4 + 3, none⟩ (.int .i64 x)) := (Mod.refl (fun k => k = sb) w1).setCell (p := ⟨sb, (0 + 1) * 4 + 3, none⟩) (.inl rfl) _
  exact ⟨h1.mod hm (Blk.ne_ h1 hsb2 (by decide)), h2.endLine hs x, h3.mod hm (Blk.ne_ h3.1 hsb2 (by decide)) (fun b hb e => by subst e; exact own_ne h3.2.1 hsb2 (by decide) hb.symm) (fun b cs hb e => by subst e; exact Blk.ne_ hb hsb2 (by decide) rfl),
    h4.mod hm (fun b ty cs hb ht e => by subst e; exact Blk.ne_ hb hsb2 (by rcases ht with rfl | rfl | rfl | rfl <;> decide) rfl), h5.trans hm (fun b _ e => by omega)⟩
theorem HtmJ.depth {B g : Nat} {r : PSr} {a : Option Addr} {v1 : Sl} {y : Int} {hb kb tb : Nat} {txt : List UInt8} {sl z : Int} {v : Sl} {ws : List Value} {fn : Value} {k : EndK} {w w1 : World} (h : HtmJ B g r 0 a v1 y hb kb tb txt sl z v ws fn k w w1) :
    HtmJ B g r 1 a v1 y hb kb tb txt sl z v ws fn k w (w1.setCell ⟨g, 5, none⟩ (.int .i64 1)) := by
  obtain ⟨h1, h2, h3, h4, h5⟩ := h
  have hm : Mod (fun k => k = g) w1 (w1.setCell ⟨g, 5, none⟩ (.int .i64 1)) := (Mod.refl (fun k => k = g) w1).setCell (p := ⟨g, 5, none⟩) (.inl rfl) _
  exact ⟨h1.set5 1, h2.far (p := ⟨g, 5, none⟩) (own_ne h2.2 h1 (by decide)) _, h3.mod hm (Blk.ne_ h3.1 h1 (by decide)) (fun b hb e => by subst e; exact own_ne h3.2.1 h1 (by decide) hb.symm) (fun b cs hb e => by subst e; exact Blk.ne_ hb h1 (by decide) rfl),
    h4.mod hm (fun b ty cs hb ht e => by subst e; exact Blk.ne_ hb h1 (by rcases ht with rfl | rfl | rfl | rfl <;> decide) rfl), h5.trans hm (fun b _ e => by omega)⟩
def HtmLast (B g hb : Nat) (r : PSr) (a : Option Addr) (v1 : Sl) (y : Int) (kb tb : Nat) (txt : List UInt8) (sl : Int) (ws : List Value) (fn : Value) (k : EndK) (b : Bool) (w w' : World) : Prop :=
  (b = true ∧ HtmE1 B g r a y txt ws w w') ∨ (b = false ∧ ∃ v' z', HtmJ B g r 1 a v1 y hb kb tb txt sl z' v' ws fn k w w' ∧ v'.n = ws.length)
set_option maxRecDepth 20000 in
theorem addLine_htm (B g hb : Nat) (r : PSr) (a : Option Addr) (v1 : Sl) (y : Int) (kb tb : Nat) (txt : List UInt8) (sl z nl : Int) (v : Sl) (ws : List Value) (fn : Value) (k : EndK) (l : List UInt8) (b : Bool) (w : World) (hgB : g < B) (hB : B ≤ w.heap.size)
    (hps : IsPS w g r) (hst : IsStack w B r.stack ([] ++ [rootE a v1 y] ++ [htmE hb sl z])) (hh : IsHtm w B hb k.blank v ws fn k) (hx : HtmX B g r v1 kb tb txt w) (hv1 : v1.n = 1) (hvn : v.n = ws.length) (hwl : ws.length ≤ 500) (hl : l.length ≤ 1000) (hnb : (trimL l).isEmpty = false) (hend : EndsB k l b) :
    Calls Tryz.prog 54 #[.pointer (some ⟨g, 0, none⟩), lnV 0 0 ⟨l.toArray⟩ nl] w fun e w' => e = .returned (.tuple #[]) ∧ HtmLast B g hb r a v1 y kb tb txt sl (ws ++ [lineV l]) fn k b w w' := by
  obtain ⟨sb, cap, cs0, hsh, hsbb, _, _, hBs⟩ := hst.shape (by simp)
  have hsh2 : r.stack = ⟨some ⟨sb, 0, none⟩, 2, cap⟩ := by rw [hsh]; rfl
  have hgs : g ≤ w.heap.size := Nat.le_of_lt hps.lt
  have hsz := sz_mk l
  refine addLine_gen g sb cap 2 r.lineno
    (fun q l' w' => (q = 0 ∧ l' = ⟨0, ⟨l.toArray⟩, nl⟩ ∧ HtmJ B g r 0 a v1 y hb kb tb txt sl z v ws fn k w w') ∨ (q = 1 ∧ l' = Ln.nil ∧ b = false ∧ ∃ v' z', HtmJ B g r 1 a v1 y hb kb tb txt sl z' v' (ws ++ [lineV l]) fn k w w' ∧ v'.n = (ws ++ [lineV l]).length))
    (fun d l' w' => l' = Ln.nil ∧ ((d = 0 ∧ b = true ∧ ∃ v' z', HtmJ B g r 0 a v1 y hb kb tb txt sl z' v' (ws ++ [lineV l]) fn k w w' ∧ v'.n = (ws ++ [lineV l]).length) ∨ (d = 1 ∧ b = false ∧ ∃ v' z', HtmJ B g r 1 a v1 y hb kb tb txt sl z' v' (ws ++ [lineV l]) fn k w w' ∧ v'.n = (ws ++ [lineV l]).length)))
    (fun q l' l'' ok w' => q = 0 ∧ l' = ⟨0, ⟨l.toArray⟩, nl⟩ ∧ l'' = Ln.nil ∧ ok = !b ∧ ∃ v', HtmJ B g r 0 a v1 y hb kb tb txt sl z v' (ws ++ [lineV l]) fn k w w' ∧ v'.n = (ws ++ [lineV l]).length)
    (HtmLast B g hb r a v1 y kb tb txt sl (ws ++ [lineV l]) fn k b w) ⟨0, ⟨l.toArray⟩, nl⟩ w r hps ⟨Nat.zero_le _, by show (ByteArray.mk l.toArray).size ≤ 1000000; omega⟩ rfl ?_ ?_
  · refine { pos := by omega, atJ := ?_, atP := ?_, atE := ?_, keepJ := ?_, keepP := ?_, keepE := ?_, keepQ := ?_, ext := ?_, yes := ?_, no := ?_, last := ?_, blank := ?_, start := ?_ }
    · rintro q l' w' (⟨rfl, rfl, h1, h2, _⟩ | ⟨rfl, rfl, _, v', z', ⟨h1, h2, _⟩, _⟩)
      · exact ⟨atLine_of h1 rfl rfl hsh2 h2 rfl (by omega) (by omega), by omega⟩
      · exact ⟨atLine_of h1 rfl rfl hsh2 h2 rfl (by omega) (by omega), by omega⟩
    · rintro q l' l'' ok w' ⟨rfl, rfl, rfl, rfl, v', ⟨h1, h2, _⟩, _⟩
      exact atLine_of h1 rfl rfl hsh2 h2 rfl (by omega) (by omega)
    · rintro d l' w' ⟨rfl, ⟨rfl, _, v', z', ⟨h1, h2, _⟩, _⟩ | ⟨rfl, _, v', z', ⟨h1, h2, _⟩, _⟩⟩
      · exact ⟨atLine_of h1 rfl rfl hsh2 h2 rfl (by omega) (by omega), by omega⟩
      · exact ⟨atLine_of h1 rfl rfl hsh2 h2 rfl (by omega) (by omega), by omega⟩
    · rintro q l' w1 w2 (⟨h1, h2, h3⟩ | ⟨h1, h2, h3, v', z', h4, h5⟩) hk
      · exact .inl ⟨h1, h2, h3.lnKept hk hgs⟩
      · exact .inr ⟨h1, h2, h3, v', z', h4.lnKept hk hgs, h5⟩
    · rintro q l' l'' ok w1 w2 ⟨h1, h2, h3, h4, v', h5, h6⟩ hk
      exact ⟨h1, h2, h3, h4, v', h5.lnKept hk hgs, h6⟩
    · rintro d l' w1 w2 ⟨h1, ⟨h2, h3, v', z', h4, h5⟩ | ⟨h2, h3, v', z', h4, h5⟩⟩ hk
      · exact ⟨h1, .inl ⟨h2, h3, v', z', h4.lnKept hk hgs, h5⟩⟩
      · exact ⟨h1, .inr ⟨h2, h3, v', z', h4.lnKept hk hgs, h5⟩⟩
    · rintro w1 w2 (⟨h1, h2⟩ | ⟨h1, v', z', h2, h3⟩) hk
      · exact .inl ⟨h1, h2.lnKept hk hgs⟩
      · exact .inr ⟨h1, v', z', h2.lnKept hk hgs, h3⟩
    · rintro q l' w' (⟨rfl, rfl, h1, h2, h3, h4, h5⟩ | ⟨rfl, _⟩) hkn hok
      · obtain ⟨sb', cap', hv', _, _, _, _, _, c0, _⟩ := h2.top
        rw [hsh2] at hv'
        simp only [Sl.mk.injEq, Option.some.injEq, Addr.mk.injEq] at hv'
        obtain ⟨⟨rfl, _⟩, _⟩ := hv'
        refine ⟨_, _, _, _, c0, htm_ext_via hb, Go.Proofs.enters_of Tryz.func342 (by kernel_rfl) rfl, Ln.nil, !b, Ln.nil_ok, ?_⟩
        refine (htm_extend B g hb k.blank v ws fn k nl l b w' (Nat.le_trans hB h5.size) h3 (by omega) rfl (by omega) hend (fun _ => hnb)).mono ?_
        rintro e w3 ⟨rfl, v', hv', hh', hm'⟩
        have hS : ∀ b' ty cs, Blk w' b' ty cs → ty ≠ 284 → ty ≠ 9 → ¬ (b' = hb ∨ some b' = v.v.ownBlock) := fun b' ty cs hbk t1 t2 e => by
          rcases e with e | e
          · subst e; exact Blk.ne_ hbk h3.1 t1 rfl
          · exact own_ne h3.2.1 hbk t2.symm e
        refine ⟨rfl, ⟨rfl, rfl, rfl, rfl, v', ⟨h1.mod hm' (hS _ _ _ h1 (by decide) (by decide)), h2.mod hm' (fun q hq e => ?_), hh', h4.mod hm' (fun b' ty cs hbk ht => hS _ _ _ hbk (by rcases ht with rfl | rfl | rfl | rfl <;> decide) (by rcases ht with rfl | rfl | rfl | rfl <;> decide)), h5.trans hm' (fun q _ e => ?_)⟩, by rw [hv', hvn]; simp⟩, hm'.size, fun lb cs _ hlb => hlb.mod hm' (hS _ _ _ hlb (by decide) (by decide))⟩
        · rcases e with e | e
          · subst e; exact own_ne h2.2 h3.1 (by decide) hq.symm
          · exact ownApart h2.2 h3.2.1 (by decide) hq e.symm
        · rcases e with e | e
          · have := h3.2.2.1; omega
          · have := ownBase h3.2.1 e; omega
      · omega
    · rintro q l' l'' w' ⟨rfl, rfl, rfl, hb', v', hj, hv'⟩ _
      have hbf : b = false := by cases b with | false => rfl | true => cases hb'
      refine .inr ⟨rfl, rfl, hbf, ?_⟩
      unfold updW
      split
      · exact ⟨v', r.lineno, (hj.far hsh2 hgB).depth, hv'⟩
      · exact ⟨v', z, hj.depth, hv'⟩
    · rintro q l' l'' w' ⟨rfl, rfl, rfl, hb', v', hj, hv'⟩ _
      have hbt : b = true := by cases b with | true => rfl | false => cases hb'
      refine ⟨rfl, .inl ⟨rfl, hbt, ?_⟩⟩
      unfold updW
      split
      · exact ⟨v', r.lineno, hj.far hsh2 hgB, hv'⟩
      · exact ⟨v', z, hj, hv'⟩
    · rintro l' w' (⟨h, _⟩ | ⟨_, rfl, hbf, h⟩)
      · cases h
      · exact ⟨rfl, .inr ⟨rfl, hbf, h⟩⟩
    · rintro d l' w' ⟨rfl, ⟨rfl, hbt, v', z', hj, hv'⟩ | ⟨rfl, hbf, v', z', hj, hv'⟩⟩ _
      · refine (trimHtm B g hb r a v1 y kb tb txt sl z' v' (ws ++ [lineV l]) fn k w w' hgB hB hj hv1 hv').mono ?_
        rintro e w2 ⟨rfl, h⟩
        exact ⟨rfl, .inl ⟨hbt, h⟩⟩
      · refine (trimStack_none g _ w' _ hj.1 ?_).mono ?_
        · show _ = ((r.stack.n : Nat) : Int)
          rw [hsh2]; rfl
        · rintro e w2 ⟨rfl, rfl⟩
          exact ⟨rfl, .inr ⟨hbf, v', z', hj, hv'⟩⟩
    · intro d l' hbl hok
      refine ⟨8, Nat.le_refl _, ?_, ?_, ?_⟩
      · rintro i f w' _ _ ⟨rfl, _⟩
        rw [Ln.nil_blank] at hbl; cases hbl
      · rintro f w' hf
        cases hf
      · rintro _ w' ⟨rfl, _⟩
        rw [Ln.nil_blank] at hbl; cases hbl
  · have hm : Mod (fun k => k = g) w (w.setCell ⟨g, 5, none⟩ (.int .i64 0)) := (Mod.refl (fun k => k = g) w).setCell (p := ⟨g, 5, none⟩) (.inl rfl) _
    exact .inl ⟨rfl, rfl, hps.set5 0, hst.far (p := ⟨g, 5, none⟩) (own_ne hst.2 hps (by decide)) _, hh.mod hm (Blk.ne_ hh.1 hps (by decide)) (fun b hb e => by subst e; exact own_ne hh.2.1 hps (by decide) hb.symm) (fun b cs hb e => by subst e; exact Blk.ne_ hb hps (by decide) rfl), hx.mod hm (fun b ty cs hb ht e => by subst e; exact Blk.ne_ hb hps (by rcases ht with rfl | rfl | rfl | rfl <;> decide) rfl), hm.mono (fun b _ e => by omega)⟩
end Go.Proofs.YtmmijmhdbpldpaaGreatDoor
