/- Texts of this proof, joined: A definition and a paragraph, in either order: the document's lines, A link is closed by a definition that is known: the three forms, A text in brackets that a known definition makes a link: how it is read. -/
import Derived.Test.YtmmijmhdbpldpaaGreatDoorCRef12
import Derived.Test.YtmmijmhdbpldpaaGreatDoorCRef13
import Derived.Test.YtmmijmhdbpldpaaGreatDoorCRef09
/- A definition and a paragraph, in either order: the document's lines. -/




namespace Go.Proofs.YtmmijmhdbpldpaaGreatDoor
open Go.RowKit
/-- An inline text is read, a link being known. -/
def InlCK (o : Opt) (k u : ByteArray) (s out : List UInt8) : Prop :=
  ∀ (g m b : Nat) (r : PSr) (w : World), IsPS w g r → Blk w r.parser 77 o.parser → r.parser ≠ g → r.back.length = 81 → r.links = some m → Known w m k u b → r.corner = false → Calls Tryz.prog 56 #[.pointer (some ⟨g, 0, none⟩), .string ⟨s.toArray⟩] w (InlPost g r out w)
def emptyV (k : Nat) : Value := .iface 353 (.pointer (some ⟨k, 0, none⟩))
def ClE (w : World) (k : Nat) : Prop := ∃ sl el : Int, Blk w k 355 #[.int .i64 sl, .int .i64 el]
def ClP (w : World) (k tb : Nat) (U : List UInt8) : Prop := ∃ sl el sl2 el2 : Int, Blk w k 155 #[.int .i64 sl, .int .i64 el, .pointer (some ⟨tb, 0, none⟩)] ∧ Blk w tb 110 #[.int .i64 sl2, .int .i64 el2, .slice none 0 0, .string ⟨U.toArray⟩]
theorem Known.keep {w w' : World} {m b : Nat} {k u : ByteArray} (h : Known w m k u b) (hk : KeepD w w') : Known w' m k u b := by
  obtain ⟨⟨c0, cl, h3⟩, h4⟩ := h
  exact ⟨⟨c0, cl, hk.obj h3 (fun _ _ _ => by simp)⟩, hk.blk h4 (by decide) (by decide) (by decide)⟩
theorem ClE.keep {w w' : World} {k : Nat} (h : ClE w k) (hk : KeepD w w') : ClE w' k := by
  obtain ⟨sl, el, h⟩ := h
  exact ⟨sl, el, hk.blk h (by decide) (by decide) (by decide)⟩
theorem ClP.keep {w w' : World} {k tb : Nat} {U : List UInt8} (h : ClP w k tb U) (hk : KeepD w w') : ClP w' k tb U := by
  obtain ⟨sl, el, sl2, el2, h1, h2⟩ := h
  exact ⟨sl, el, sl2, el2, hk.blk h1 (by decide) (by decide) (by decide), hk.blk h2 (by decide) (by decide) (by decide)⟩
/-- What the first block has left. -/
def Mid (pb g : Nat) (bh : Bool) (U : List UInt8) (key u : ByteArray) (r : PSr) (bv : Value) (w : World) : Prop :=
  r.parser = pb ∧ r.back.length = 81 ∧ r.corner = false ∧
  ((bh = false ∧ ∃ k m b, bv = emptyV k ∧ ClE w k ∧ r.links = some m ∧ Known w m key u b ∧ r.texts = Sl.nil ∧ g < m ∧ g < b) ∨
   (bh = true ∧ ∃ k tb ta tc, bv = parV k ∧ ClP w k tb U ∧ r.links = none ∧ r.texts = ⟨ta, 1, tc⟩ ∧ w.ownsRow (g + 1) 105 1 (.slice ta 1 tc) 1 [.pointer (some ⟨tb, 0, none⟩)] ∧ g < tb))
theorem Mid.keep {pb g : Nat} {bh : Bool} {U : List UInt8} {key u : ByteArray} {r r2 : PSr} {bv : Value} {w w' : World} (h : Mid pb g bh U key u r bv w) (hk : KeepD w w') (h1 : r2.parser = r.parser) (h2 : r2.back = r.back) (h3 : r2.corner = r.corner) (h4 : r2.links = r.links) (h5 : r2.texts = r.texts) : Mid pb g bh U key u r2 bv w' := by
  obtain ⟨a1, a2, a3, a4⟩ := h
  refine ⟨h1.trans a1, by rw [h2]; exact a2, h3.trans a3, ?_⟩
  rcases a4 with ⟨b0, k, m, b, b1, b2, b3, b4, b5, b6, b7⟩ | ⟨b0, k, tb, ta, tc, b1, b2, b3, b4, b5, b6⟩
  · exact .inl ⟨b0, k, m, b, b1, b2.keep hk, h4.trans b3, b4.keep hk, h5.trans b5, b6, b7⟩
  · exact .inr ⟨b0, k, tb, ta, tc, b1, b2.keep hk, h4.trans b3, h5.trans b4, hk.own b5 (by decide) (by decide) (by decide), b6⟩
/-- Behind the blank line. -/
def R2 (pb g : Nat) (bh : Bool) (U : List UInt8) (key u : ByteArray) (a : Option Addr) (w : World) : Prop :=
  ∃ (r : PSr) (v1 : Sl) (bv : Value), r.lineno = 2 ∧ IsPS w g r ∧ IsStack w (g + 1) r.stack ([] ++ [rootF a v1]) ∧ v1.n = 1 ∧ w.ownsRow (g + 1) 69 1 v1.v 1 [bv] ∧ Mid pb g bh U key u r bv w
theorem R2.lnKept {pb g base : Nat} {bh : Bool} {U : List UInt8} {key u : ByteArray} {a : Option Addr} {w w' : World} (h : R2 pb g bh U key u a w) (hk : LnKept base w w') : R2 pb g bh U key u a w' := by
  obtain ⟨r, v1, bv, h1, h2, h3, h4, h5, h6⟩ := h
  exact ⟨r, v1, bv, h1, h2.lnKept hk, h3.lnKept hk, h4, own_lnKept h5 hk (by decide), h6.keep (KeepD.lnKept hk) rfl rfl rfl rfl rfl⟩
theorem joinT_one (s : List UInt8) : joinT [⟨s.toArray⟩] = s := by unfold joinT; rw [List.map_cons, List.map_nil, Lib.join_cons]; simp [Lib.joinTail]
set_option maxRecDepth 20000 in
/-- The first block is closed by a blank line. -/
theorem addLine_blank2 (pb g qb : Nat) (bh : Bool) (D U : List UInt8) (j : Nat) (r : PSr) (a : Option Addr) (v : Sl) (nl : Int) (w : World) (hps : IsPS w g r) (hst : IsStack w (g + 1) r.stack ([] ++ [rootF a Sl.nil] ++ [parE qb 1 1])) (hp : IsPara w (g + 1) qb v [lineV (if bh then U else D)]) (hv : v.n = 1)
    (h1 : r.lineno = 2) (h2 : r.parser = pb) (h3 : r.back.length = 81) (h4 : r.corner = false) (h5 : r.links = none) (h6 : r.texts = Sl.nil) (HD : RefText ⟨D.toArray⟩ j) (HU : ParaHead U) :
    Calls Tryz.prog 54 #[.pointer (some ⟨g, 0, none⟩), lnV 0 0 ⟨#[]⟩ nl] w fun e w' => e = .returned (.tuple #[]) ∧ (R2 pb g bh U (refKey ⟨D.toArray⟩ j) ((ByteArray.mk D.toArray).extract (j + 3) (ByteArray.mk D.toArray).size) a w' ∧ Mod (fun k => g ≤ k) w w') := by
  have hg := hps.lt
  refine addLine_blankP (g + 1) g qb r (rootF a Sl.nil) 1 1 nl w (fun w' => R2 pb g bh U (refKey ⟨D.toArray⟩ j) ((ByteArray.mk D.toArray).extract (j + 3) (ByteArray.mk D.toArray).size) a w' ∧ Mod (fun k => g ≤ k) w w') (Nat.lt_succ_self _) hps hst ?_ ?_
  · rintro w1 w2 ⟨q1, q2⟩ hk
    exact ⟨q1.lnKept hk, q2.lnKept hk (Nat.le_of_lt hg)⟩
  · rintro w1 ⟨p1, p2, p3, p4⟩
    have hpara1 : IsPara w1 (g + 1) qb v [lineV (if bh then U else D)] := ⟨p3.blk hp.1 (by decide) (by decide) (by decide), p3.own hp.2.1 (by decide) (by decide) (by decide), hp.2.2⟩
    cases bh with
    | false =>
      refine (trim_leaf1 (g + 1) g { r with lineDepth := 0 } (rootF a Sl.nil) (parE qb 1 1) [] 353 _ w1 p1 p2 (closeRef_any (g + 1) g qb { r with lineDepth := 0 } (rootF a Sl.nil) [] v ⟨D.toArray⟩ j 1 1 w1 p1.lt p1 h5 p2 (World.ownsRow_nil _ _ _ _) (by show 0 ≤ 1000000; omega) hpara1 hv HD)).mono ?_
      rintro e w' ⟨rfl, r', k, w2, v1, st, ⟨m, b, sl, el, rfl, q1, q2, q3, q4, q5, q6⟩, hps2, hst2, hv1, hrow, hm⟩
      have hg1 := p1.lt
      have hstz : ∀ q, some q = r.stack.v.ownBlock → q < w1.heap.size := fun q e => ownLt p2.2 e
      have hn : ∀ q, w1.heap.size ≤ q → ¬ (q = g ∨ some q = ({ ({ r with lineDepth := 0 } : PSr) with links := some m }).stack.v.ownBlock ∨ some q = (rootF a Sl.nil).inner.v.ownBlock) := fun q hq e => by
        rcases e with e | e | e
        · omega
        · have := hstz q e; omega
        · cases e
      have hv1' : v1.n = 1 := hv1
      rw [hv1'] at hrow
      refine ⟨rfl, ⟨{ r with lineDepth := 0, links := some m, stack := st }, v1, emptyV k, h1, hps2, hst2, hv1', hrow, h2, h3, h4, .inl ⟨rfl, k, m, b, rfl, ⟨sl, el, q2.mod hm (hn k q1)⟩, rfl, q3.mod hm (hn m q4) (hn b q5), h6, by omega, by omega⟩⟩, ?_⟩
      refine (p4.trans q6 (fun q _ e => by omega)).trans hm (fun q hq e => ?_)
      rcases e with e | e | e
      · omega
      · have := ownBase p2.2 e; omega
      · cases e
    | true =>
      have hj := joinT_one U
      refine (trim_leaf1 (g + 1) g { r with lineDepth := 0 } (rootF a Sl.nil) (parE qb 1 1) [] 153 _ w1 p1 p2 (closePara_any (g + 1) g qb { r with lineDepth := 0 } (rootF a Sl.nil) [] v [⟨U.toArray⟩] [] 1 1 w1 p1.lt p1 p2 (World.ownsRow_nil _ _ _ _) (by show 0 ≤ 1000000; omega) hpara1 hv (by show World.ownsRow _ _ _ _ (Sl.v r.texts) r.texts.n []; rw [h6]; exact World.ownsRow_nil _ _ _ _) (by show r.texts.n ≤ 1000000; rw [h6]; show 0 ≤ 1000000; omega) (by omega) (by simp) (by simp) (by rw [hj]; exact HU))).mono ?_
      rintro e w' ⟨rfl, r', k, w2, v1, st, ⟨tb, l, rfl, q1, q2, q3, q4, q5, q6, q7⟩, hps2, hst2, hv1, hrow, hm⟩
      rw [hj] at q4
      obtain ⟨la, ln, lc⟩ := l
      have hln : ln = 1 := by have : ln = r.texts.n + 1 := q6; rw [h6] at this; exact this
      subst hln
      have hg1 := p1.lt
      have hst1 := p2.mod q7 (fun k hk e => by
        rcases e with e | e
        · subst e; exact own_ne p2.2 p1 (by decide) hk.symm
        · have e' : some k = r.texts.v.ownBlock := e
          rw [h6] at e'; cases e')
      have hv1' : v1.n = 1 := hv1
      rw [hv1'] at hrow
      have hne : ∀ (q : Nat) (ty : TypeId) cs, Blk w2 q ty cs → q ≠ g → ty ≠ 121 → ¬ (q = g ∨ some q = r.stack.v.ownBlock ∨ some q = (rootF a Sl.nil).inner.v.ownBlock) := fun q ty cs hb hq ht e => by
        rcases e with e | e | e
        · exact hq e
        · exact own_ne hst1.2 hb ht.symm e
        · cases e
      have hrt : w'.ownsRow (g + 1) 105 1 (.slice la 1 lc) 1 [.pointer (some ⟨tb, 0, none⟩)] := own_mod q5 hm (fun q hq e => by
        rcases e with e | e | e
        · have := ownBase q5 hq.symm; omega
        · exact ownApart q5 hst1.2 (by decide) hq e.symm
        · cases e)
      refine ⟨rfl, ⟨{ r with lineDepth := 0, texts := ⟨la, 1, lc⟩, stack := st }, v1, parV k, h1, hps2, hst2, hv1', hrow, h2, h3, h4, .inr ⟨rfl, k, tb, la, lc, rfl, ⟨_, _, _, _, q3.mod hm (hne k _ _ q3 (by omega) (by decide)), q4.mod hm (hne tb _ _ q4 (by omega) (by decide))⟩, h5, rfl, hrt, by omega⟩⟩, ?_⟩
      refine (p4.trans q7 (fun q hq e => ?_)).trans hm (fun q hq e => ?_)
      · rcases e with e | e
        · omega
        · have e' : some q = r.texts.v.ownBlock := e
          rw [h6] at e'; cases e'
      · rcases e with e | e | e
        · omega
        · have := ownBase p2.2 e; omega
        · cases e
/-- The document's lines, one after the other. -/
def RInv (pb g : Nat) (w0 : World) (o : Opt) (bh : Bool) (D U : List UInt8) (key u : ByteArray) (l : List UInt8) (n : Nat) (w : World) : Prop :=
  Below g w0 w ∧ Blk w pb 77 o.parser ∧ ∃ (st : Sl) (a : Option Addr),
    (l = (if bh then U else D) ++ 10 :: ([] ++ 10 :: ((if bh then D else U) ++ 10 :: [])) ∧ n = 0 ∧ IsPS w g { ps0 pb with stack := st } ∧ IsStack w (g + 1) st ([] ++ [rootF a Sl.nil])) ∨
    (∃ qb v, l = [] ++ 10 :: ((if bh then D else U) ++ 10 :: []) ∧ n = 1 ∧ IsPS w g { ps0 pb with lineno := 1, lineDepth := 0, stack := st } ∧ IsStack w (g + 1) st ([] ++ [rootF a Sl.nil] ++ [parE qb 1 1]) ∧ IsPara w (g + 1) qb v [lineV (if bh then U else D)] ∧ v.n = 1) ∨
    (l = (if bh then D else U) ++ 10 :: [] ∧ n = 2 ∧ R2 pb g bh U key u a w) ∨
    (∃ r v1 bv qb v, l = [] ∧ n = 3 ∧ IsPS w g r ∧ r.lineno = 3 ∧ IsStack w (g + 1) r.stack ([] ++ [rootF a v1] ++ [parE qb 3 3]) ∧ v1.n = 1 ∧ w.ownsRow (g + 1) 69 1 v1.v 1 [bv] ∧ Mid pb g bh U key u r bv w ∧ IsPara w (g + 1) qb v [lineV (if bh then D else U)] ∧ v.n = 1)
def RFin (pb g : Nat) (w0 : World) (o : Opt) (bh : Bool) (U out : List UInt8) (key u : ByteArray) (ta : Option Addr) (k : Nat) (w : World) : Prop :=
  Below g w0 w ∧ Blk w pb 77 o.parser ∧ ∃ (r : PSr) (d kb tb eb ab : Nat) (v1 : Sl) (tc m b : Nat), IsPS w g r ∧ r.parser = pb ∧ r.root = some ⟨d, 0, none⟩ ∧ ta = some ⟨ab, 0, none⟩ ∧ r.texts = ⟨ta, 1, tc⟩ ∧ w.ownsRow (g + 1) 105 1 r.texts.v 1 [.pointer (some ⟨tb, 0, none⟩)] ∧
    Blk w d 339 #[.int .i64 0, .int .i64 0, v1.v, .map (some m)] ∧ v1.n = 2 ∧ w.ownsRow (g + 1) 69 1 v1.v 2 (if bh then [parV kb, emptyV eb] else [emptyV eb, parV kb]) ∧ g < tb ∧ ClE w eb ∧ Known w m key u b ∧ m ≠ g ∧
    ((k = 0 ∧ r.back.length = 81 ∧ r.links = some m ∧ r.corner = false ∧ ClP w kb tb U) ∨ (k = 1 ∧ IsPar w (g + 1) kb tb out))
theorem map_ne {w : World} {base : Nat} {e : TypeId} {size n : Nat} {v : Value} {xs : List Value} {m b : Nat} {k : ByteArray} (h : w.ownsRow base e size v n xs) (hm : LinkMap w m k b) : some m ≠ v.ownBlock := by
  obtain ⟨c0, cl, hm⟩ := hm
  rcases h.2 with ⟨rfl, _⟩ | ⟨g', cap, cur, rfl, _, hh, _⟩
  · intro e; cases e
  · intro e
    obtain rfl : m = g' := Option.some.inj e
    rw [hh] at hm
    cases hm
theorem map_ps {w : World} {g m b : Nat} {r : PSr} {k : ByteArray} (h : IsPS w g r) (hm : LinkMap w m k b) : m ≠ g := by
  obtain ⟨c0, cl, hm⟩ := hm
  intro e
  subst e
  unfold IsPS Blk at h
  rw [h] at hm
  cases hm
theorem R2.drewN {pb g : Nat} {bh : Bool} {U : List UInt8} {key u : ByteArray} {a : Option Addr} {w : World} (h : R2 pb g bh U key u a w) (n : Nat) : R2 pb g bh U key u a (w.drewN n) := h.lnKept (LnKept.drewN (LnKept.refl 0 w) n)
theorem KeepD.drewN (w : World) (n : Nat) : KeepD w (w.drewN n) := KeepD.of ((Mod.refl (fun _ => False) w).drewN n) (fun _ _ h => h.elim)
set_option maxRecDepth 20000 in
theorem refH (pb g : Nat) (w0 : World) (o : Opt) (bh : Bool) (D U out : List UInt8) (j : Nat) (hpb : pb < g) (hDl : ParLine ⟨D.toArray⟩) (hUl : ParLine ⟨U.toArray⟩) (hDn : 10 ∉ D ∧ 13 ∉ D) (hUn : 10 ∉ U ∧ 13 ∉ U) (HD : RefText ⟨D.toArray⟩ j) (HU : ParaHead U) (ht : o.tasks = false)
    (hi : InlCK o (refKey ⟨D.toArray⟩ j) ((ByteArray.mk D.toArray).extract (j + 3) (ByteArray.mk D.toArray).size) U out) :
    ParseH2 pb g 1 (RInv pb g w0 o bh D U (refKey ⟨D.toArray⟩ j) ((ByteArray.mk D.toArray).extract (j + 3) (ByteArray.mk D.toArray).size)) (RFin pb g w0 o bh U out (refKey ⟨D.toArray⟩ j) ((ByteArray.mk D.toArray).extract (j + 3) (ByteArray.mk D.toArray).size)) (D.length + U.length + 3) where
  line := by
    have hX1 : ParLine ⟨(if bh then U else D).toArray⟩ := by cases bh <;> assumption
    have hX2 : ParLine ⟨(if bh then D else U).toArray⟩ := by cases bh <;> assumption
    have hN1 : 10 ∉ (if bh then U else D) ∧ 13 ∉ (if bh then U else D) := by cases bh <;> assumption
    have hN2 : 10 ∉ (if bh then D else U) ∧ 13 ∉ (if bh then D else U) := by cases bh <;> assumption
    have hdl : D.length ≤ 100000 := by have := hDl.size; rwa [sz_mk] at this
    have hul : U.length ≤ 100000 := by have := hUl.size; rwa [sz_mk] at this
    intro l n w ⟨hb, hpar, st, a, h⟩ hne hll
    rcases h with ⟨rfl, rfl, hps, hst⟩ | ⟨qb, v, rfl, rfl, hps, hst, hp, hv⟩ | ⟨rfl, rfl, h2⟩ | ⟨_, _, _, _, _, h, _⟩
    · have hg := hps.lt
      refine ⟨⟨_, hps, rfl⟩, by omega, ?_⟩
      rw [nextLine_cut _ _ hN1.1 hN1.2 (by simp only [List.nil_append, List.mem_cons, List.mem_append, List.not_mem_nil, or_false, not_or]; exact ⟨by decide, hN2.2, by decide⟩)]
      have hne2 : some g ≠ st.v.ownBlock := own_ne hst.2 hps (by decide)
      have hpar3 := hpar.far (p := ⟨g, 3, none⟩) (Blk.ne_ hpar hps (by decide)) (.int .i64 ((0 : Nat) + 1))
      refine (addLine_par1 (g + 1) g { ps0 pb with lineno := 1, stack := st } a Sl.nil o.tables ((10 : Nat) : Int) ⟨(if bh then U else D).toArray⟩ _ (Nat.lt_succ_self _) (by simp; exact hg) (hps.set3 _) (hst.far (p := ⟨g, 3, none⟩) hne2 _) hX1 hpb (hpar3.at_ 5 rfl)).mono ?_
      rintro e w' ⟨rfl, ⟨st2, qb, v, h1, h2, h3, h4, hm⟩, _⟩
      refine ⟨rfl, ?_, hpar3.mod hm (by omega), st2, a, .inr (.inl ⟨qb, v, rfl, rfl, h1, h2, h3, h4⟩)⟩
      exact (hb.setCell (p := ⟨g, 3, none⟩) (Nat.le_refl _) _).trans (hm.toBelow (B := g) (by simp; exact Nat.le_of_lt hg) (fun k hk e => by omega))
    · have hg := hps.lt
      refine ⟨⟨_, hps, rfl⟩, by omega, ?_⟩
      rw [nextLine_cut [] _ (by simp) (by simp) (by simp only [List.mem_append, List.mem_cons, List.not_mem_nil, or_false, not_or]; exact ⟨hN2.2, by decide⟩)]
      have hne2 : some g ≠ st.v.ownBlock := own_ne hst.2 hps (by decide)
      have hpar3 := hpar.far (p := ⟨g, 3, none⟩) (Blk.ne_ hpar hps (by decide)) (.int .i64 ((1 : Nat) + 1))
      refine (addLine_blank2 pb g qb bh D U j { ps0 pb with lineno := 2, lineDepth := 0, stack := st } a v ((10 : Nat) : Int) _ (hps.set3 _) (hst.far (p := ⟨g, 3, none⟩) hne2 _) (hp.far (p := ⟨g, 3, none⟩) hps (by decide) (by decide) _) hv rfl rfl rfl rfl rfl rfl HD HU).mono ?_
      rintro e w' ⟨rfl, h2, hm⟩
      refine ⟨rfl, ?_, hpar3.mod hm (by omega), st, a, .inr (.inr (.inl ⟨rfl, rfl, h2⟩))⟩
      exact (hb.setCell (p := ⟨g, 3, none⟩) (Nat.le_refl _) _).trans (hm.toBelow (B := g) (by simp; exact Nat.le_of_lt hg) (fun k hk e => by omega))
    · obtain ⟨r, v1, bv, h1, hps, hst, h4, h5, h6⟩ := h2
      have hg := hps.lt
      refine ⟨⟨_, hps, h1⟩, by omega, ?_⟩
      rw [nextLine_cut _ _ hN2.1 hN2.2 (by simp)]
      have hne2 : some g ≠ r.stack.v.ownBlock := own_ne hst.2 hps (by decide)
      have hpar3 := hpar.far (p := ⟨g, 3, none⟩) (Blk.ne_ hpar hps (by decide)) (.int .i64 ((2 : Nat) + 1))
      have hk3 : KeepD w (w.setCell ⟨g, 3, none⟩ (.int .i64 ((2 : Nat) + 1))) := KeepD.of ((Mod.refl (fun k => k = g) w).setCell (p := ⟨g, 3, none⟩) (.inl rfl) _) (fun k _ e => by subst e; exact own3_ps hps)
      have hrp := h6.1
      refine (addLine_par1 (g + 1) g { r with lineno := 3 } a v1 o.tables ((10 : Nat) : Int) ⟨(if bh then D else U).toArray⟩ _ (Nat.lt_succ_self _) (by simp; exact hg) (hps.set3 _) (hst.far (p := ⟨g, 3, none⟩) hne2 _) hX2 (by show r.parser < g; omega) (by show World.cell? _ ⟨r.parser, 5, none⟩ = _; rw [hrp]; exact hpar3.at_ 5 rfl)).mono ?_
      rintro e w' ⟨rfl, ⟨st2, qb, v, q1, q2, q3, q4, hm⟩, hkd⟩
      refine ⟨rfl, ?_, hpar3.mod hm (by omega), st2, a, .inr (.inr (.inr ⟨_, v1, bv, qb, v, rfl, rfl, q1, rfl, q2, h4, ?_, h6.keep (hk3.trans hkd) rfl rfl rfl rfl rfl, q3, q4⟩))⟩
      · exact (hb.setCell (p := ⟨g, 3, none⟩) (Nat.le_refl _) _).trans (hm.toBelow (B := g) (by simp; exact Nat.le_of_lt hg) (fun k hk e => by omega))
      · exact (hk3.trans hkd).own h5 (by decide) (by decide) (by decide)
    · exact absurd h hne
  drew := by
    intro l n w k ⟨hb, hpar, st, a, h⟩
    refine ⟨below_drewN hb k, hpar.drewN k, st, a, ?_⟩
    rcases h with ⟨h1, h2, hps, hst⟩ | ⟨qb, v, h1, h2, hps, hst, ⟨q1, q2, q3⟩, h4⟩ | ⟨h1, h2, h3⟩ | ⟨r, v1, bv, qb, v, h1, h2, h3, h4, h5, h6, h7, h8, ⟨q1, q2, q3⟩, h10⟩
    · exact .inl ⟨h1, h2, hps.drewN k, hst.drewN k⟩
    · exact .inr (.inl ⟨qb, v, h1, h2, hps.drewN k, hst.drewN k, ⟨q1.drewN k, World.ownsRow.drewN q2 k, q3⟩, h4⟩)
    · exact .inr (.inr (.inl ⟨h1, h2, h3.drewN k⟩))
    · exact .inr (.inr (.inr ⟨r, v1, bv, qb, v, h1, h2, h3.drewN k, h4, h5.drewN k, h6, World.ownsRow.drewN h7 k, h8.keep (KeepD.drewN w k) rfl rfl rfl rfl rfl, ⟨q1.drewN k, World.ownsRow.drewN q2 k, q3⟩, h10⟩))
  trim := by
    intro n w ⟨hb, hpar, st, a, h⟩
    rcases h with ⟨h1, _⟩ | ⟨qb, v, h1, _⟩ | ⟨h1, _⟩ | ⟨r, v1, bv, qb, v, _, _, hps, hln, hst, hv1, hrow, hmid, hp, hv⟩
    · exfalso; have := congrArg List.length h1; simp at this
    · exfalso; have := congrArg List.length h1; simp at this
    · exfalso; have := congrArg List.length h1; simp at this
    · have hg := hps.lt
      obtain ⟨mp, mb, mc, hmid⟩ := hmid
      cases bh with
      | false =>
        rcases hmid with ⟨_, eb, m, b, rfl, he, hlk, hK, htx, hgm, hgb⟩ | ⟨h, _⟩
        · have hj := joinT_one U
          refine (trim_leaf0 (g + 1) g r a v1 0 0 (parE qb 3 3) [emptyV eb] 153 _ w hps hst (closePara_any (g + 1) g qb r (rootF a v1) [emptyV eb] v [⟨U.toArray⟩] [] 3 3 w hg hps hst (by show World.ownsRow _ _ _ _ v1.v v1.n _; rw [hv1]; exact hrow) (by show v1.n ≤ 1000000; omega) hp hv (by rw [htx]; exact World.ownsRow_nil _ _ _ _) (by rw [htx]; show 0 ≤ 1000000; omega) (by omega) (by simp) (by simp) (by rw [hj]; exact HU))).mono ?_
          rintro e w' ⟨rfl, r', kb, w2, v2, st2, d, ⟨tb, l, rfl, q1, q2, q3, q4, q5, q6, q7⟩, hd, hps2, hv2, hrow2, hdoc, hm⟩
          rw [hj] at q4
          obtain ⟨la, ln, lc⟩ := l
          have hln : ln = 1 := by have h8 : ln = r.texts.n + 1 := q6; rw [htx] at h8; exact h8
          subst hln
          have hrow' : w.ownsRow (g + 1) 69 1 v1.v 1 [emptyV eb] := hrow
          have hS7 : ∀ q, (q = g ∨ some q = r.texts.v.ownBlock) → q = g := fun q e => by
            rcases e with e | e
            · exact e
            · rw [htx] at e; cases e
          have q7' : Mod (fun q => q = g) w w2 := q7.mono (fun q _ e => hS7 q e)
          have hst1 := hst.mod q7' (fun k hk e => by subst e; exact own_ne hst.2 hps (by decide) hk.symm)
          have hrow1 := own_mod hrow' q7' (fun k hk e => by subst e; exact own_ne hrow' hps (by decide) hk.symm)
          obtain ⟨sl, el, he⟩ := he
          have he1 := he.mod q7' (fun e => Blk.ne_ he hps (by decide) e)
          have hK1 := hK.mod q7' (map_ps hps hK.1) (fun e => Blk.ne_ hK.2 hps (by decide) e)
          have hne : ∀ (q : Nat) (ty : TypeId) cs, Blk w2 q ty cs → q ≠ g → ty ≠ 121 → ty ≠ 69 → ¬ (q = g ∨ some q = r.stack.v.ownBlock ∨ some q = v1.v.ownBlock) := fun q ty cs hb hq ht ht2 e => by
            rcases e with e | e | e
            · exact hq e
            · exact own_ne hst1.2 hb ht.symm e
            · exact own_ne hrow1 hb ht2.symm e
          have hgne : ∀ (q : Nat) (ty : TypeId) cs, Blk w2 q ty cs → Blk w q ty cs → ty ≠ 95 → q ≠ g := fun q ty cs _ h2 ht => Blk.ne_ h2 hps ht
          have hrt : w'.ownsRow (g + 1) 105 1 (.slice la 1 lc) 1 [.pointer (some ⟨tb, 0, none⟩)] := own_mod q5 hm (fun q hq e => by
            rcases e with e | e | e
            · have := ownBase q5 hq.symm; omega
            · exact ownApart q5 hst1.2 (by decide) hq e.symm
            · exact ownApart q5 hrow1 (by decide) hq e.symm)
          obtain ⟨ab, cs, hab, _⟩ := row_blk hrt (Nat.succ_pos 0)
          have hv2' : v2.n = 2 := by have h8 : v2.n = v1.n + 1 := hv2; omega
          have hbel : Below g w w' := (q7'.toBelow (B := g) (Nat.le_of_lt hg) (fun k hk e => by omega)).trans (hm.toBelow (B := g) (Nat.le_trans (Nat.le_of_lt hg) q7.size) (fun k hk e => by
            rcases e with e | e | e
            · omega
            · have := ownBase hst.2 e; omega
            · have := ownBase hrow' e; omega))
          have hrow3 : w'.ownsRow (g + 1) 69 1 v2.v 2 [emptyV eb, parV kb] := by rw [hv2'] at hrow2; exact hrow2
          have hdoc' : Blk w' d 339 #[.int .i64 0, .int .i64 0, v2.v, .map (some m)] := by rw [← hlk]; exact hdoc
          exact ⟨rfl, la, hb.trans hbel, hpar.mod (Mod.below hbel (S := fun k => g ≤ k) (fun k _ h => h)) (by omega), _, d, kb, tb, eb, ab, v2, lc, m, b, hps2, mp, rfl, hab, rfl, hrt, hdoc', hv2', hrow3, by omega, ⟨sl, el, he1.mod hm (hne eb _ _ he1 (hgne _ _ _ he1 he (by decide)) (by decide) (by decide))⟩, hK1.mod hm (fun e => by
            rcases e with e | e | e
            · omega
            · exact map_ne hst1.2 hK1.1 e
            · exact map_ne hrow1 hK1.1 e) (hne b _ _ hK1.2 (by omega) (by decide) (by decide)), by omega, .inl ⟨rfl, mb, hlk, mc, _, _, _, _, q3.mod hm (hne kb _ _ q3 (by omega) (by decide) (by decide)), q4.mod hm (hne tb _ _ q4 (by omega) (by decide) (by decide))⟩⟩
        · cases h
      | true =>
        rcases hmid with ⟨h, _⟩ | ⟨_, kb, tb, ta, tc, rfl, hP, hlk, htx, htr, hgt⟩
        · cases h
        · refine (trim_leaf0 (g + 1) g r a v1 0 0 (parE qb 3 3) [parV kb] 353 _ w hps hst (closeRef_any (g + 1) g qb r (rootF a v1) [parV kb] v ⟨D.toArray⟩ j 3 3 w hg hps hlk hst (by show World.ownsRow _ _ _ _ v1.v v1.n _; rw [hv1]; exact hrow) (by show v1.n ≤ 1000000; omega) hp hv HD)).mono ?_
          rintro e w' ⟨rfl, r', eb, w2, v2, st2, d, ⟨m, b, sl, el, rfl, q1, q2, q3, q4, q5, q6⟩, hd, hps2, hv2, hrow2, hdoc, hm⟩
          have hrow' : w.ownsRow (g + 1) 69 1 v1.v 1 [parV kb] := hrow
          have hst1 := hst.mod q6 (fun k hk e => by subst e; exact own_ne hst.2 hps (by decide) hk.symm)
          have hrow1 := own_mod hrow' q6 (fun k hk e => by subst e; exact own_ne hrow' hps (by decide) hk.symm)
          obtain ⟨sl3, el3, sl4, el4, hP1, hP2⟩ := hP
          have hp1 := hP1.mod q6 (fun e => Blk.ne_ hP1 hps (by decide) e)
          have hp2 := hP2.mod q6 (fun e => Blk.ne_ hP2 hps (by decide) e)
          have hne : ∀ (q : Nat) (ty : TypeId) cs, Blk w2 q ty cs → q ≠ g → ty ≠ 121 → ty ≠ 69 → ¬ (q = g ∨ some q = r.stack.v.ownBlock ∨ some q = v1.v.ownBlock) := fun q ty cs hb hq ht ht2 e => by
            rcases e with e | e | e
            · exact hq e
            · exact own_ne hst1.2 hb ht.symm e
            · exact own_ne hrow1 hb ht2.symm e
          have htr1 := own_mod htr q6 (fun k hk e => by subst e; exact own_ne htr hps (by decide) hk.symm)
          have hrt : w'.ownsRow (g + 1) 105 1 (.slice ta 1 tc) 1 [.pointer (some ⟨tb, 0, none⟩)] := own_mod htr1 hm (fun q hq e => by
            rcases e with e | e | e
            · have := ownBase htr1 hq.symm; omega
            · exact ownApart htr1 hst1.2 (by decide) hq e.symm
            · exact ownApart htr1 hrow1 (by decide) hq e.symm)
          obtain ⟨ab, cs, hab, _⟩ := row_blk hrt (Nat.succ_pos 0)
          have hv2' : v2.n = 2 := by have h8 : v2.n = v1.n + 1 := hv2; omega
          have hbel : Below g w w' := (q6.toBelow (B := g) (Nat.le_of_lt hg) (fun k hk e => by omega)).trans (hm.toBelow (B := g) (Nat.le_trans (Nat.le_of_lt hg) q6.size) (fun k hk e => by
            rcases e with e | e | e
            · omega
            · have := ownBase hst.2 e; omega
            · have := ownBase hrow' e; omega))
          have hrow3 : w'.ownsRow (g + 1) 69 1 v2.v 2 [parV kb, emptyV eb] := by rw [hv2'] at hrow2; exact hrow2
          have htx' : ({ r with links := some m, stack := st2, root := some ⟨d, 0, none⟩ } : PSr).texts = ⟨ta, 1, tc⟩ := htx
          have hrt' : w'.ownsRow (g + 1) 105 1 (Sl.v ({ r with links := some m, stack := st2, root := some ⟨d, 0, none⟩ } : PSr).texts) 1 [.pointer (some ⟨tb, 0, none⟩)] := by rw [htx']; exact hrt
          exact ⟨rfl, ta, hb.trans hbel, hpar.mod (Mod.below hbel (S := fun k => g ≤ k) (fun k _ h => h)) (by omega), { r with links := some m, stack := st2, root := some ⟨d, 0, none⟩ }, d, kb, tb, eb, ab, v2, tc, m, b, hps2, mp, rfl, hab, htx, hrt', hdoc, hv2', hrow3, hgt, ⟨sl, el, q2.mod hm (hne eb _ _ q2 (by omega) (by decide) (by decide))⟩, q3.mod hm (fun e => by
            rcases e with e | e | e
            · omega
            · exact map_ne hst1.2 q3.1 e
            · exact map_ne hrow1 q3.1 e) (hne b _ _ q3.2 (by omega) (by decide) (by decide)), by omega, .inl ⟨rfl, mb, rfl, mc, _, _, _, _, hp1.mod hm (hne kb _ _ hp1 (Blk.ne_ hP1 hps (by decide)) (by decide) (by decide)), hp2.mod hm (hne tb _ _ hp2 (by omega) (by decide) (by decide))⟩⟩
  at_ := by
    intro ta k w ⟨hb, hpar, r, d, kb, tb, eb, ab, v1, tc, m, b, hps, hrp, hroot, hta, htx, _⟩
    exact ⟨by omega, r, tc, hps, htx, parser_no2 o hpar ht⟩
  text := by
    intro ta k w ⟨hb, hpar, r, d, kb, tb, eb, ab, v1, tc, m, b, hps, hrp, hroot, hta, htx, hrt, hdoc, hv1, hrow, hgt, he, hK, hmg, hk⟩ hk1
    rcases hk with ⟨rfl, hbk, hlk, hco, sl, el, sl2, el2, hkp, hkt⟩ | ⟨rfl, _⟩
    · subst hta
      have hrt2 := hrt
      rw [htx] at hrt2
      obtain ⟨ab', cs, hab, hblk, _, _, _, hcl, _⟩ := row_blk hrt2 (Nat.succ_pos 0)
      simp only [Option.some.injEq, Addr.mk.injEq] at hab
      obtain ⟨rfl, _⟩ := hab
      have hgl := hps.lt
      have hrg : r.parser ≠ g := by rw [hrp]; omega
      refine ⟨ab, 0, tb, ⟨U.toArray⟩, rfl, hblk.at_ 0 (hcl 0 (by omega)), hkt.at_ 3 rfl, (hi g m b r w hps (by rw [hrp]; exact hpar) hrg hbk hlk hK hco).mono ?_⟩
      rintro e w' ⟨l, vs, outs, c, em, s2, bk, rfl, hps', hrl, hn, hits, hout, hm⟩
      have hkt' := hkt.mod hm (by omega)
      refine ⟨l.a, l.n, l.c, rfl, ⟨_, hkt'.at_ 2 rfl⟩, hkt'.free 2, ?_⟩
      have htg : tb ≠ g := by omega
      have hm2 : Mod (fun k => k = tb) w' (w'.setCell ⟨tb, 2, none⟩ (.slice l.a l.n l.c)) := (Mod.refl (fun k => k = tb) w').setCell (p := ⟨tb, 2, none⟩) (.inl rfl) _
      have hm3 := (hm.mono (S' := fun k => k = g ∨ k = tb) (fun _ _ h => .inl h)).trans hm2 (fun _ _ h => .inr h)
      have hg1 : g + 1 ≤ w.heap.size := hgl
      obtain ⟨sle, ele, he⟩ := he
      have hmt : m ≠ tb := by
        obtain ⟨⟨c0, cl, h3⟩, _⟩ := hK
        intro e
        subst e
        unfold Blk at hkt
        rw [hkt] at h3
        cases h3
      refine ⟨hb.trans (hm3.toBelow (B := g) (Nat.le_of_lt hgl) (fun k hk e => by omega)), hpar.mod hm3 (by omega), _, d, kb, tb, eb, ab, v1, tc, m, b, hps'.far (p := ⟨tb, 2, none⟩) (fun e => htg e.symm) _, hrp, hroot, rfl, htx, ?_, ?_, hv1, ?_, hgt, ⟨sle, ele, ?_⟩, ?_, hmg, .inr ⟨rfl, sl, el, sl2, el2, .string ⟨U.toArray⟩, l, vs, outs, ?_, ?_, ?_, hn, ?_, hout⟩⟩
      · exact own_mod hrt hm3 (fun q hq e => by
          rcases e with e | e
          · have := ownBase hrt hq.symm; omega
          · subst e; exact own_ne hrt hkt (by decide) hq.symm)
      · exact hdoc.mod hm3 (fun e => by
          rcases e with e | e
          · exact Blk.ne_ hdoc hps (by decide) e
          · exact Blk.ne_ hdoc hkt (by decide) e)
      · exact own_mod hrow hm3 (fun q hq e => by
          rcases e with e | e
          · have := ownBase hrow hq.symm; omega
          · subst e; exact own_ne hrow hkt (by decide) hq.symm)
      · exact he.mod hm3 (fun e => by
          rcases e with e | e
          · exact Blk.ne_ he hps (by decide) e
          · exact Blk.ne_ he hkt (by decide) e)
      · exact hK.mod hm3 (fun e => by
          rcases e with e | e
          · exact hmg e
          · exact hmt e) (fun e => by
          rcases e with e | e
          · exact Blk.ne_ hK.2 hps (by decide) e
          · exact Blk.ne_ hK.2 hkt (by decide) e)
      · exact hkp.mod hm3 (fun e => by
          rcases e with e | e
          · exact Blk.ne_ hkp hps (by decide) e
          · exact Blk.ne_ hkp hkt (by decide) e)
      · exact hkt'.set_ 2 _
      · exact own_base (own_far hrl (p := ⟨tb, 2, none⟩) (own_ne hrl hkt' (by decide)) _) hg1
      · exact (hits.mod hm2 (fun k ty cs hbk _ _ ht e => by subst e; exact Blk.ne_ hbk hkt' ht rfl)).base hg1
    · omega
theorem empty_prints (w : World) (b k : Nat) (bs : List UInt8) : Prints w b bs (emptyV k) [] := by
  refine ⟨_, _, 351, .pointer (some ⟨k, 0, none⟩), rfl, fun W => by kernel_rfl, Go.Proofs.enters_of Tryz.func351 (by kernel_rfl) rfl, fun B' W hk hbf hB hl => ?_⟩
  go_enter Tryz.func351, Tryz.ntmps351
  go_wp2_with fail
  go_end0
  exact ⟨rfl, by simpa using hbf, Below.refl _ _, Lib.OthersKept.refl _ _ _⟩
set_option maxRecDepth 20000 in
theorem HTML_ref (o : Opt) (bh : Bool) (D U out : List UInt8) (j : Nat) (w : World) (hDl : ParLine ⟨D.toArray⟩) (hUl : ParLine ⟨U.toArray⟩) (hDn : 10 ∉ D ∧ 13 ∉ D ∧ 0 ∉ D) (hUn : 10 ∉ U ∧ 13 ∉ U ∧ 0 ∉ U) (HD : RefText ⟨D.toArray⟩ j) (HU : ParaHead U) (ht : o.tasks = false) (hol : out.length ≤ 900000)
    (hi : InlCK o (refKey ⟨D.toArray⟩ j) ((ByteArray.mk D.toArray).extract (j + 3) (ByteArray.mk D.toArray).size) U out) (s : ByteArray) (hs : s = ⟨((if bh then U else D) ++ 10 :: ([] ++ 10 :: ((if bh then D else U) ++ 10 :: []))).toArray⟩) :
    Calls Tryz.prog 11 #[o.v, .string s] w fun e w' => e = .returned (.string ⟨(paraOut out).toArray⟩) ∧ Below w.heap.size w w' := by
  subst hs
  refine HTML_gen2 o _ w (paraOut out) (fun pb w1 hbw hblkp => ?_)
  have hdl : D.length ≤ 100000 := by have := hDl.size; rwa [sz_mk] at this
  have hul : U.length ≤ 100000 := by have := hUl.size; rwa [sz_mk] at this
  have hpb : pb < w1.heap.size := hblkp.lt
  have hpo := paraOut_len out
  have htl : ((if bh then U else D) ++ 10 :: ([] ++ 10 :: ((if bh then D else U) ++ 10 :: []))).length = D.length + U.length + 3 := by cases bh <;> simp <;> omega
  have h0 : (0 : UInt8) ∉ ((if bh then U else D) ++ 10 :: ([] ++ 10 :: ((if bh then D else U) ++ 10 :: []))) := by
    cases bh <;> simp [hDn.2.2, hUn.2.2]
  have hpar : Calls Tryz.prog 43 #[.pointer (some ⟨pb, 0, none⟩), .string ⟨((if bh then U else D) ++ 10 :: ([] ++ 10 :: ((if bh then D else U) ++ 10 :: []))).toArray⟩] w1 fun e w' => ∃ d c, e = .returned (.tuple #[.pointer (some ⟨d, 0, none⟩), .bool c]) ∧ DocPrints w' d (paraOut out) ∧ Below w1.heap.size w1 w' := by
    refine (parse_gen2 pb _ w1 1 (RInv pb w1.heap.size w1 o bh D U (refKey ⟨D.toArray⟩ j) ((ByteArray.mk D.toArray).extract (j + 3) (ByteArray.mk D.toArray).size)) (RFin pb w1.heap.size w1 o bh U out (refKey ⟨D.toArray⟩ j) ((ByteArray.mk D.toArray).extract (j + 3) (ByteArray.mk D.toArray).size)) (by omega) (idxB_not _ 0 h0) (by rw [htl]; exact refH pb w1.heap.size w1 o bh D U out j hpb hDl hUl ⟨hDn.1, hDn.2.1⟩ ⟨hUn.1, hUn.2.1⟩ HD HU ht hi) ?_).mono ?_
    · intro w' bn hps hb
      refine (addBlock_top (w1.heap.size + 1) w1.heap.size (ps0 pb) [] w' 98 (.pointer (some ⟨bn, 0, none⟩)) hps.lt hps ⟨rfl, World.ownsRow_nil _ _ _ _⟩ rfl (by simp)).mono ?_
      rintro e w2 ⟨rfl, v, hps1, hst, _, hm⟩
      refine ⟨rfl, ?_, ?_, v, some ⟨bn, 0, none⟩, .inl ⟨rfl, rfl, hps1, hst⟩⟩
      · exact hb.trans (hm.toBelow (B := w1.heap.size) hb.size (fun k hk e => by
          rcases e with e | e
          · omega
          · simp [ps0, Sl.nil, Value.ownBlock] at e))
      · refine (hblkp.mod (S := fun _ => False) (Mod.below' hb) (fun x => x)).mod hm (fun e => ?_)
        rcases e with e | e
        · omega
        · simp [ps0, Sl.nil, Value.ownBlock] at e
    · rintro e w' ⟨ta, r, k, rfl, hps, w0, ⟨hb, _, r0, d, kb, tb, eb, ab, v1, tc, m, b, hps0, _, hroot, _, _, _, hdoc, hv1, hrow, _, _, _, _, hk⟩, rfl⟩
      have h1 := hps.c1
      have h2 := hps0.c1
      rw [show (w0.drewN k).cell? ⟨w1.heap.size, 1, none⟩ = w0.cell? ⟨w1.heap.size, 1, none⟩ from rfl, h2, hroot] at h1
      simp only [Option.some.injEq, Value.pointer.injEq] at h1
      rw [← h1]
      rcases hk with ⟨h, _⟩ | ⟨_, hpar⟩
      · omega
      · refine ⟨d, _, rfl, ⟨0, 0, v1, some m, w1.heap.size + 1, (if bh then [parV kb, emptyV eb] else [emptyV eb, parV kb]), (if bh then [paraOut out, []] else [[], paraOut out]), hdoc, ?_, by omega, by cases bh <;> simp, by omega, by cases bh <;> rfl, ?_⟩, below_drewN hb k⟩
        · rw [hv1]; exact World.ownsRow.drewN hrow k
        · intro b' i y x hbz hy hx
          cases bh with
          | false =>
            match i with
            | 0 =>
              simp at hy hx
              subst hy hx
              exact empty_prints _ _ _ _
            | 1 =>
              simp at hy hx
              subst hy hx
              exact par_prints _ (w1.heap.size + 1) b' kb tb _ out hbz (hpar.drewN k)
            | i + 2 => simp at hy
          | true =>
            match i with
            | 0 =>
              simp at hy hx
              subst hy hx
              exact par_prints _ (w1.heap.size + 1) b' kb tb _ out hbz (hpar.drewN k)
            | 1 =>
              simp at hy hx
              subst hy hx
              exact empty_prints _ _ _ _
            | i + 2 => simp at hy
  go_enter Tryz.func29, Tryz.ntmps29
  go_wp2_with (go_at_call 43; refine hpar.mono ?_; rintro e w1 ⟨d, c, rfl, hd, hb⟩)
  all_goals go_ret
  all_goals exact ⟨d, rfl, hd, hb⟩
end Go.Proofs.YtmmijmhdbpldpaaGreatDoor
/- A link is closed by a definition that is known: the three forms. -/


namespace Go.Proofs.YtmmijmhdbpldpaaGreatDoor
open Go.RowKit
theorem hasPre_short (s p : ByteArray) (w : World) (h : s.size < p.size) :
    Calls Tryz.prog 31 #[.string s, .string p] w fun e w' => e = .returned (.bool false) ∧ w = w' := by
  go_enter Tryz.func31, Tryz.ntmps31
  go_wp2
  go_ret
  exact ⟨rfl, rfl⟩
set_option maxHeartbeats 400000 in
theorem hasPre_same (s : ByteArray) (w : World) (_ : s.size ≤ 1000) :
    Calls Tryz.prog 31 #[.string s, .string s] w fun e w' => e = .returned (.bool true) ∧ w = w' := by
  have hE : ((s.extract 0 s.size).toList == s.toList) = true := by rw [ext_all]; exact beq_self_eq_true _
  go_enter Tryz.func31, Tryz.ntmps31
  go_wp2
  go_ret
  exact ⟨rfl, rfl⟩
/-- What it gives: a new link with the destination that is known. -/
def ClosedBy (u : ByteArray) (n : Nat) (w : World) (e : Ending) (w' : World) : Prop := ∃ nb, e = .returned (.tuple #[.pointer (some ⟨nb, 0, none⟩), .int .i64 (n : Int), .bool true]) ∧ w.heap.size ≤ nb ∧ Blk w' nb 144 #[.slice none 0 0, .string u, .string ⟨#[]⟩, .int .u8 0, .bool false] ∧ Below w.heap.size w w'
theorem Known.below {w w' : World} {m b : Nat} {k u : ByteArray} (h : Known w m k u b) (hb : Below w.heap.size w w') : Known w' m k u b := h.mod (Mod.below' (S := fun _ => False) hb) (fun x => x) (fun x => x)
set_option maxRecDepth 20000 in
set_option maxHeartbeats 3200000 in
/-- [Text][Label] -/
theorem refClose_full (g m b : Nat) (q : Value) (r : PSr) (s k u : ByteArray) (i j : Nat) (w : World) (hps : IsPS w g r) (hln : r.links = some m) (hK : Known w m k u b) (hs : s.size ≤ 100000) (h91 : bt s (i + 1) = 91) (hij : i + 1 < j) (hj : j < s.size) (hl : j - (i + 2) ≤ 999)
    (hc : ∀ n, i + 1 < n → n < j → bt s n ≠ 91 ∧ bt s n ≠ 92 ∧ bt s n ≠ 93) (h93 : bt s j = 93) (hn : trimNR (trimNL (s.extract (i + 1 + 1) j).data.toList) ≠ []) (hno : ∀ W, Calls Tryz.prog 118 #[.string ⟨(trimNR (trimNL (s.extract (i + 1 + 1) j).data.toList)).toArray⟩] W fun e w' => e = .returned (.string k) ∧ Below W.heap.size W w') :
    Calls Tryz.prog 79 #[.pointer (some ⟨g, 0, none⟩), .string s, .int .i64 i, q] w (ClosedBy u (j + 1) w) := by
  have hb := get_bt s
  have HLB := hid (label_any (.pointer (some ⟨g, 0, none⟩)) s (i + 1) j w (by omega) hij hj (by omega) h91 hc h93 hn)
  rw [show ((i + 1 : Nat) : Int) = (i : Int) + 1 from by omega] at HLB
  generalize trimNR (trimNL (s.extract (i + 1 + 1) j).data.toList) = lb at HLB hno
  have e40 : (bt s (i + 1) == 40) = false := by rw [h91]; rfl
  have e91 : (bt s (i + 1) == 91) = true := by rw [h91]; rfl
  have c2 := hps.c2
  rw [hln] at c2
  have HPS := hid hps
  have HLN := hid hln
  have HK := hid hK
  have HNO := hid hno
  clear hps hln hK hno hc h93 hn h91
  go_enter Tryz.func79, Tryz.ntmps79
  go_wp2_with fail
  refine HLB.out.mono ?_
  rintro e w1 ⟨rfl, rfl⟩
  go_wp2_with fail
  go_region_law (first
    | (go_simp; go_at_call 118; refine (HNO.out _).mono ?_; rintro e w4 ⟨rfl, hb4⟩; have c2' := IsPS.c2 (IsPS.below (w := World.drew w) HPS.out hb4); rw [HLN.out] at c2'; have HK4 := hid (Known.below (w := World.drew w) HK.out hb4); have hget := run_get1 HK4.out.1; have x1 := HK4.out.2.at_ 1 (v := .string u) rfl; have x2 := HK4.out.2.at_ 2 (v := .string ⟨#[]⟩) rfl; have x4 := HK4.out.2.at_ 4 (v := .bool false) rfl))
  all_goals
    have HB4 := hid ((below_drewN (Below.refl w.heap.size w) 1).trans hb4)
    clear c2 c2' HLB e40 e91 hb HK HNO HPS HLN hget hb4
    go_wp2_with fail
    go_region
    all_goals go_wp2_with fail
    all_goals refine bodyPost_ret (by simp [results, Tryz.results79, go_sem]; try rfl) rfl ?_
    all_goals exact ⟨w4.heap.size, by rw [show ((j + 1 : Nat) : Int) = (j : Int) + 1 from by omega], HB4.out.size, Blk.drewN (Blk.new w4 _ _) 1, (HB4.out.alloc HB4.out.size _).drew⟩
set_option maxRecDepth 20000 in
set_option maxHeartbeats 3200000 in
/-- [Label] at the text's end -/
theorem refClose_short (g m b ob j : Nat) (r : PSr) (s k u t : ByteArray) (i : Nat) (w : World) (hps : IsPS w g r) (hln : r.links = some m) (hK : Known w m k u b) (hob : Blk w ob 139 #[.string t, .int .i64 j]) (hs : s.size ≤ 100000) (hj : j ≤ i) (hi : i + 1 = s.size)
    (hno : ∀ W, Calls Tryz.prog 118 #[.string (s.extract j i)] W fun e w' => e = .returned (.string k) ∧ Below W.heap.size W w') :
    Calls Tryz.prog 79 #[.pointer (some ⟨g, 0, none⟩), .string s, .int .i64 i, .pointer (some ⟨ob, 0, none⟩)] w (ClosedBy u (i + 1) w) := by
  have hb := get_bt s
  have c2 := hps.c2
  rw [hln] at c2
  have o1 := hob.at_ 1 (v := .int .i64 j) rfl
  have hi' : i ≤ s.size := by omega
  have HX := hid (hasPre_short ByteArray.empty ⟨#[91, 93]⟩ w (by decide))
  have HPS := hid hps
  have HLN := hid hln
  have HK := hid hK
  have HNO := hid hno
  have HOB := hid hob
  clear hps hln hK hno hob
  go_enter Tryz.func79, Tryz.ntmps79
  go_wp2_with fail
  refine HX.out.mono ?_
  rintro e w1 ⟨rfl, rfl⟩
  go_wp2_with fail
  go_region_law (first
    | (go_simp; go_at_call 118; refine (HNO.out _).mono ?_; rintro e w4 ⟨rfl, hb4⟩; have c2' := IsPS.c2 (IsPS.below (w := World.drew w) HPS.out hb4); rw [HLN.out] at c2'; have HK4 := hid (Known.below (w := World.drew w) HK.out hb4); have hget := run_get1 HK4.out.1; have x1 := HK4.out.2.at_ 1 (v := .string u) rfl; have x2 := HK4.out.2.at_ 2 (v := .string ⟨#[]⟩) rfl; have x4 := HK4.out.2.at_ 4 (v := .bool false) rfl))
  all_goals
    have HB4 := hid ((below_drewN (Below.refl w.heap.size w) 1).trans hb4)
    clear c2 c2' HX hb HK HNO HPS HLN hget hb4 o1 HOB
    go_wp2_with fail
    go_region
    all_goals go_wp2_with fail
    all_goals refine bodyPost_ret (by simp [results, Tryz.results79, go_sem]; try rfl) rfl ?_
    all_goals exact ⟨w4.heap.size, by rw [show ((i + 1 : Nat) : Int) = (i : Int) + 1 from by omega], HB4.out.size, Blk.drewN (Blk.new w4 _ _) 1, (HB4.out.alloc HB4.out.size _).drew⟩
theorem label_empty (p : Value) (s : ByteArray) (i : Nat) (w : World) (hs : s.size ≤ 100000) (hi : i + 1 < s.size) (h0 : bt s i = 91) (h1 : bt s (i + 1) = 93) :
    Calls Tryz.prog 117 #[p, .string s, .int .i64 i] w fun e w' => e = .returned (.tuple #[.string ⟨#[]⟩, .int .i64 0, .bool false]) ∧ w = w' := by
  have hb := get_bt s
  have e0 : (bt s i == 91) = true := by simpa using h0
  have e0' : (bt s i != 91) = false := by simp [bne, e0]
  have e1 : (bt s (i + 1) == 93) = true := by simpa using h1
  have HT := hid (trimSTN_any ByteArray.empty w (by decide))
  have h999 : ¬ 999 < ((i : Int) + 1) - ((i : Int) + 1) := by omega
  clear h0 h1
  go_enter Tryz.func117, Tryz.ntmps117
  go_wp2_with fail
  refine wp_loop_rounds 1 ?_
  rw [rounds_succ]
  go_wp2_with fail
  refine HT.out.mono ?_
  rintro e w1 ⟨rfl, rfl⟩
  go_wp2_with fail
  refine bodyPost_ret (by simp [results, Tryz.results117, go_sem]; try rfl) rfl ?_
  exact ⟨rfl, rfl⟩
set_option maxRecDepth 20000 in
set_option maxHeartbeats 3200000 in
/-- [Label][] at the text's end -/
theorem refClose_coll (g m b ob j : Nat) (r : PSr) (s k u t : ByteArray) (i : Nat) (w : World) (hps : IsPS w g r) (hln : r.links = some m) (hK : Known w m k u b) (hob : Blk w ob 139 #[.string t, .int .i64 j]) (hs : s.size ≤ 100000) (hj : j ≤ i) (hi : i + 3 = s.size) (h91 : bt s (i + 1) = 91) (h93 : bt s (i + 2) = 93)
    (hno : ∀ W, Calls Tryz.prog 118 #[.string (s.extract j i)] W fun e w' => e = .returned (.string k) ∧ Below W.heap.size W w') :
    Calls Tryz.prog 79 #[.pointer (some ⟨g, 0, none⟩), .string s, .int .i64 i, .pointer (some ⟨ob, 0, none⟩)] w (ClosedBy u (i + 3) w) := by
  have hb := get_bt s
  have c2 := hps.c2
  rw [hln] at c2
  have o1 := hob.at_ 1 (v := .int .i64 j) rfl
  have hi' : i ≤ s.size := by omega
  have HLB := hid (label_empty (.pointer (some ⟨g, 0, none⟩)) s (i + 1) w hs (by omega) h91 h93)
  rw [show ((i + 1 : Nat) : Int) = (i : Int) + 1 from by omega] at HLB
  have hex : s.extract (i + 1) s.size = ⟨#[91, 93]⟩ := by
    have e : s = ⟨s.data.toList.toArray⟩ := ByteArray.ext Array.toArray_toList.symm
    have hl : s.data.toList.length = s.size := (Lib.size_eq s).symm
    rw [extract_end]
    have h1 : s.data.toList[i + 1]? = some 91 := by
      obtain ⟨c, hc, hcb⟩ := bt_at s (show i + 1 < s.size from by omega)
      rw [h91] at hcb
      rw [hc]
      exact congrArg some (UInt8.toNat_inj.1 (by show c.toNat = 91; omega))
    have h2 : s.data.toList[i + 2]? = some 93 := by
      obtain ⟨c, hc, hcb⟩ := bt_at s (show i + 2 < s.size from by omega)
      rw [h93] at hcb
      rw [hc]
      exact congrArg some (UInt8.toNat_inj.1 (by show c.toNat = 93; omega))
    have g1 := List.getElem?_eq_some_iff.1 h1
    have g2 := List.getElem?_eq_some_iff.1 h2
    rw [List.drop_eq_getElem_cons g1.1, g1.2, List.drop_eq_getElem_cons g2.1, g2.2, List.drop_of_length_le (by omega)]
  have HX := hid (show Calls Tryz.prog 31 #[.string (s.extract (i + 1) s.size), .string ⟨#[91, 93]⟩] w fun e w' => e = .returned (.bool true) ∧ w = w' from by rw [hex]; exact hasPre_same _ w (by decide))
  have e40 : (bt s (i + 1) == 40) = false := by rw [h91]; rfl
  have e91 : (bt s (i + 1) == 91) = true := by rw [h91]; rfl
  have HPS := hid hps
  have HLN := hid hln
  have HK := hid hK
  have HNO := hid hno
  have HOB := hid hob
  clear hps hln hK hno hob h91 h93 hex
  go_enter Tryz.func79, Tryz.ntmps79
  go_wp2_with fail
  refine HLB.out.mono ?_
  rintro e w1 ⟨rfl, rfl⟩
  go_wp2_with fail
  refine HX.out.mono ?_
  rintro e w1 ⟨rfl, rfl⟩
  go_wp2_with fail
  go_region_law (first
    | (go_simp; go_at_call 118; refine (HNO.out _).mono ?_; rintro e w4 ⟨rfl, hb4⟩; have c2' := IsPS.c2 (IsPS.below (w := World.drew w) HPS.out hb4); rw [HLN.out] at c2'; have HK4 := hid (Known.below (w := World.drew w) HK.out hb4); have hget := run_get1 HK4.out.1; have x1 := HK4.out.2.at_ 1 (v := .string u) rfl; have x2 := HK4.out.2.at_ 2 (v := .string ⟨#[]⟩) rfl; have x4 := HK4.out.2.at_ 4 (v := .bool false) rfl))
  all_goals
    have HB4 := hid ((below_drewN (Below.refl w.heap.size w) 1).trans hb4)
    clear c2 c2' HX hb HK HNO HPS HLN hget hb4 o1 HOB HLB e40 e91
    go_wp2_with fail
    go_region
    all_goals go_wp2_with fail
    all_goals refine bodyPost_ret (by simp [results, Tryz.results79, go_sem]; try rfl) rfl ?_
    all_goals exact ⟨w4.heap.size, by rw [show ((i + 3 : Nat) : Int) = (i : Int) + 1 + 2 from by omega], HB4.out.size, Blk.drewN (Blk.new w4 _ _) 1, (HB4.out.alloc HB4.out.size _).drew⟩
end Go.Proofs.YtmmijmhdbpldpaaGreatDoor
/- A text in brackets that a known definition makes a link: how it is read. -/



namespace Go.Proofs.YtmmijmhdbpldpaaGreatDoor
open Go.RowKit
/-- What stands in labels and their texts. -/
def rcs : List UInt8 := [97, 98, 99, 88, 89, 90, 32, 49, 50, 65, 66, 67, 116]
def useT (T rest : List UInt8) : List UInt8 := 91 :: (T ++ 93 :: rest)
def useJ (T : List UInt8) : JL := fun i em _ _ ks ops => (i = 0 ∧ em = 0 ∧ ks = [] ∧ ops = []) ∨ (em = 1 ∧ ks = [openK (opL false) 1] ∧ ops = [0] ∧ 1 ≤ i ∧ i ≤ 1 + T.length)
def useF (T : List UInt8) (u : ByteArray) : Bool → ByteArray → List Kind → Prop := fun im u' iks => im = false ∧ u' = u ∧ iks = [plainK T]
theorem rcs_parF (g : Nat) : ∀ c ∈ rcs, parF plainO g (c.toNat : Int) = none := by
  intro c hc
  have : ∀ c ∈ rcs, (parF plainO g (c.toNat : Int)).isNone = true := by unfold rcs; simp [parF, plainO]
  exact Option.isNone_iff_eq_none.1 (this c hc)
theorem use_mid {T rest : List UInt8} (_ : ∀ c ∈ T, c ∈ rcs) (i : Nat) (h1 : 1 ≤ i) (h2 : i < 1 + T.length) : ∃ c ∈ T, bt ⟨(useT T rest).toArray⟩ i = (c.toNat : Int) :=
  at_mid (p := [91]) (q := T) (r := 93 :: rest) (by simp [useT]) i (by simpa using h1) (by simpa using h2)
theorem use_0 (T rest : List UInt8) : bt ⟨(useT T rest).toArray⟩ 0 = 91 := bt_one (p := []) (r := T ++ 93 :: rest) (x := 91) (by simp [useT]) 0 rfl
theorem use_93 (T rest : List UInt8) : bt ⟨(useT T rest).toArray⟩ (1 + T.length) = 93 := by
  exact bt_one (p := 91 :: T) (r := rest) (x := 93) (by simp [useT]) _ (by simp; omega)
theorem use_len (T rest : List UInt8) : (useT T rest).length = T.length + rest.length + 2 := by unfold useT; simp; omega
theorem use_text (T rest : List UInt8) : (ByteArray.mk (useT T rest).toArray).extract 1 (1 + T.length) = ⟨T.toArray⟩ := ext_mid (p := [91]) (q := T) (r := 93 :: rest) (by simp [useT]) _ _ rfl rfl
theorem useH (T rest : List UInt8) (key u : ByteArray) (hT : ∀ c ∈ T, c ∈ rcs) (h0 : 0 < T.length) (hl : T.length ≤ 200) (hr : rest.length ≤ 200) (hu : ∀ k, bt u k ≠ 37) (hus : u.size ≤ 1000)
    (hcl : ∀ (g m b ob : Nat) (r : PSr) (W : World), IsPS W g r → r.links = some m → Known W m key u b → Blk W ob 139 #[lineV [91], .int .i64 ((1 : Nat) : Int)] → Calls Tryz.prog 79 #[.pointer (some ⟨g, 0, none⟩), .string ⟨(useT T rest).toArray⟩, .int .i64 ((1 + T.length : Nat) : Int), .pointer (some ⟨ob, 0, none⟩)] W (ClosedBy u (useT T rest).length W))
    (g m b : Nat) (r : PSr) (w : World) (hps : IsPS w g r) (hlk : r.links = some m) (hK : Known w m key u b) : InlHL plainO w.heap.size g r ⟨(useT T rest).toArray⟩ w (useJ T) (useF T u) := by
  have hlen := use_len T rest
  have hmg := map_ps hps hK.1
  have hbg : b ≠ g := Blk.ne_ hK.2 hps (by decide)
  have hbl := hK.2.lt
  have hml : m < w.heap.size := by obtain ⟨_, _, h3⟩ := hK.1; exact (Array.getElem?_eq_some_iff.1 h3).1
  have hpf91 : parF plainO g 91 = some (69, #[]) := rfl
  have hpf93 : parF plainO g 93 = none := by simp [parF]
  refine { start := .inl ⟨rfl, rfl, rfl, rfl⟩, more := ?_, quiet := ?_, tick := ?_, call := ?_, close := ?_ }
  · rintro em tk bk ks ops (⟨h, _⟩ | ⟨_, _, _, _, h⟩)
    · rw [sz_mk] at h; omega
    · rw [sz_mk] at h; omega
  · rintro i em tk bk ks ops (⟨rfl, rfl, rfl, rfl⟩ | ⟨rfl, rfl, rfl, h1, h2⟩) _ hi hf hq
    · rw [use_0, hpf91] at hf; cases hf
    · refine .inr ⟨rfl, rfl, rfl, by omega, ?_⟩
      rcases Nat.lt_or_ge i (1 + T.length) with h3 | h3
      · omega
      · obtain rfl : i = 1 + T.length := by omega
        rcases hq with hq | hq
        · exact absurd (use_93 T rest) hq
        · cases hq
  · rintro i em tk bk ks ops (⟨rfl, rfl, rfl, rfl⟩ | ⟨rfl, rfl, rfl, h1, h2⟩) hi
    · rw [use_0]; decide
    · rcases Nat.lt_or_ge i (1 + T.length) with h3 | h3
      · obtain ⟨c, hc, e⟩ := use_mid (rest := rest) hT i h1 h3
        rw [e]
        have := hT c hc
        revert this
        exact (by decide : ∀ c ∈ rcs, (c.toNat : Int) ≠ 96) c
      · obtain rfl : i = 1 + T.length := by omega
        rw [use_93]; decide
  · rintro i em tk bk ks ops f rv (⟨rfl, rfl, rfl, rfl⟩ | ⟨rfl, rfl, rfl, h1, h2⟩) hei hi hf W hin hmod
    · have hWs : w.heap.size ≤ W.heap.size := hmod.size
      rw [use_0, hpf91] at hf
      simp only [Option.some.injEq, Prod.mk.injEq] at hf
      obtain ⟨rfl, rfl⟩ := hf
      refine (linkOpen_any _ ⟨(useT T rest).toArray⟩ 0 W hi (by rw [sz_mk]; omega)).mono ?_
      rintro e' w' ⟨ob, rfl, hob, hblk, hbel⟩
      have hx : (ByteArray.mk (useT T rest).toArray).extract 0 (0 + 1) = ⟨[91].toArray⟩ := ext_mid (p := []) (q := [91]) (r := T ++ 93 :: rest) (by simp [useT]) _ _ rfl rfl
      rw [hx] at hblk
      refine ⟨bk, hin.below hbel, Mod.below hbel (fun k _ h2 => .inr (Nat.le_trans hWs h2)), KeepT.below hbel, .inr ⟨_, openK (opL false) 1, 0, 1, rfl, ⟨ob, rfl, hblk, Nat.le_trans hWs hob⟩, (openK_apart _ _), Nat.le_refl _, Nat.zero_le _, by omega, by omega, by rw [sz_mk]; omega, .inr ⟨false, 1, rfl, .inr ⟨rfl, rfl, rfl, Nat.le_refl _, by omega⟩⟩⟩⟩
    · exfalso
      rcases Nat.lt_or_ge i (1 + T.length) with h3 | h3
      · obtain ⟨c, hc, e⟩ := use_mid (rest := rest) hT i h1 h3
        rw [e, rcs_parF g c (hT c hc)] at hf
        cases hf
      · obtain rfl : i = 1 + T.length := by omega
        rw [use_93, hpf93] at hf
        cases hf
  · rintro i em tk bk ks ops oi (⟨rfl, rfl, rfl, hops⟩ | ⟨rfl, rfl, hops, h1, h2⟩) hei hi h93 img' j ob W hki hin hmod hob
    · have := congrArg List.length hops
      simp at this
    · have hWs : w.heap.size ≤ W.heap.size := hmod.size
      obtain rfl : ops = [] := by
        have := congrArg List.length hops
        simp at this
        exact this
      simp only [List.nil_append, List.cons.injEq, and_true] at hops
      subst hops
      have hi1 : i = 1 + T.length := by
        rcases Nat.lt_or_ge i (1 + T.length) with h3 | h3
        · exfalso
          obtain ⟨c, hc, e⟩ := use_mid (rest := rest) hT i h1 h3
          have := hT c hc
          rw [e] at h93
          revert this h93
          exact (by decide : ∀ x ∈ rcs, (x.toNat : Int) = 93 → False) c |> fun f h p => f p h
        · omega
      subst hi1
      simp only [List.getElem?_cons_zero, Option.some.injEq] at hki
      obtain ⟨rfl, rfl⟩ := openK_inj hki
      obtain ⟨l, vs, hps1, _⟩ := id hin
      have hKW : Known W m key u b := hK.mod hmod (by omega) (by omega)
      refine (hcl g m b ob _ W hps1 hlk hKW hob).mono ?_
      rintro e w' ⟨nb, rfl, hnb, hblk, hbel⟩
      have hpc : pieceK ⟨(useT T rest).toArray⟩ 1 (1 + T.length) = [plainK T] := by
        unfold pieceK
        rw [if_pos (by omega)]
        have := use_text T rest
        rw [extract_mk] at this
        have := congrArg (fun b : ByteArray => b.data.toList) this
        simp only at this
        rw [this]
      refine ⟨hin.below hbel, Mod.below hbel (fun k _ h2 => .inr (Nat.le_trans hWs h2)), KeepT.below hbel, .inr ⟨nb, u, by rw [sz_mk], hblk, Nat.le_trans hWs hnb, rfl, ?_, fun W2 => ?_, rfl, rfl, ?_⟩⟩
      · rw [hpc]; simp
      · refine (linkCorner_no u W2 (by omega) (fun m _ => hu m)).mono ?_
        rintro e w2 ⟨rfl, rfl⟩
        exact ⟨false, rfl, Below.refl _ _⟩
      · rw [hpc]
        show [emK (plainK T)] = [plainK T]
        rw [emK_plain]
theorem rcs_esc {l : List UInt8} (h : ∀ c ∈ l, c ∈ rcs) : esc l = l := by
  have key : ∀ c ∈ rcs, esc [c] = [c] := by unfold rcs; decide
  induction l with
  | nil => rfl
  | cons c l ih =>
    have h3 : esc (c :: l) = esc [c] ++ esc l := by unfold esc; simp
    rw [h3, key c (h c (List.mem_cons_self ..)), ih (fun x hx => h x (List.mem_cons_of_mem _ hx))]
    rfl
theorem inlCK_use (T rest : List UInt8) (key u : ByteArray) (hT : ∀ c ∈ T, c ∈ rcs) (h0 : 0 < T.length) (hl : T.length ≤ 200) (hr : rest.length ≤ 200) (hu : ∀ k, bt u k ≠ 37) (hus : u.size ≤ 1000) (hq : ∀ i, i < u.size → Plainly (bt u i)) (htr : trimR (trimL (useT T rest)) = useT T rest)
    (hcl : ∀ (g m b ob : Nat) (r : PSr) (W : World), IsPS W g r → r.links = some m → Known W m key u b → Blk W ob 139 #[lineV [91], .int .i64 ((1 : Nat) : Int)] → Calls Tryz.prog 79 #[.pointer (some ⟨g, 0, none⟩), .string ⟨(useT T rest).toArray⟩, .int .i64 ((1 + T.length : Nat) : Int), .pointer (some ⟨ob, 0, none⟩)] W (ClosedBy u (useT T rest).length W)) :
    InlCK plainO key u (useT T rest) (lkOut u.data.toList T) := by
  intro g m b r w hps hpar hne hbk hlk hK hco
  have hlen := use_len T rest
  refine inline_link plainO g r ⟨(useT T rest).toArray⟩ ⟨(useT T rest).toArray⟩ w (useJ T) (useF T u) hps hpar hne hco rfl _ (by rw [sz_mk]; omega) (by rw [htr]) (by rw [sz_mk]; omega) (useH T rest key u hT h0 hl hr hu hus hcl g m b r w hps hlk hK) (fun im u' iks hF => ?_)
  obtain ⟨rfl, rfl, rfl⟩ := hF
  refine ⟨by simp, fun W b' base d lc ys h1 h2 h3 h4 h5 h6 => ?_⟩
  have hys : ys.length = 1 := h4.1
  have h7 := link_itemG (outs := [esc T]) h1 h2 h3 (by rw [h5]; simp) h6 ⟨by rw [hys]; rfl, fun i v x hv hx => by
    have hi : i = 0 := by have := (List.getElem?_eq_some_iff.1 hx).1; simpa using this
    subst hi
    simp only [List.getElem?_cons_zero, Option.some.injEq] at hx
    subst hx
    exact ItemS.of (h4.2 0 v (plainK T) hv rfl) (plainK_ok T) (plain_kprints T (by omega))⟩ (by omega) hq
  have h8 : ([esc T] : List (List UInt8)).flatten = T := by rw [rcs_esc hT]; simp
  rw [h8] at h7
  exact h7
end Go.Proofs.YtmmijmhdbpldpaaGreatDoor
/- FnReference's labels: capital letters change nothing in the normal form. -/


namespace Go.Proofs.YtmmijmhdbpldpaaGreatDoor
open Go.RowKit
def up (c : UInt8) : UInt8 := if 97 ≤ c.toNat ∧ c.toNat ≤ 122 then c - 32 else c
/-- The characters of the law's labels. -/
def lcs : List UInt8 := [97, 98, 99, 88, 89, 90, 32, 49, 50]
def lus : List UInt8 := [65, 66, 67, 88, 89, 90, 32, 49, 50]
theorem up_lcs : ∀ c ∈ lcs, up c ∈ lus ∧ isSN (up c) = isSN c ∧ lowc (up c) = lowc c := by unfold lcs lus; decide
theorem trimNL_map {l : List UInt8} (h : ∀ c ∈ l, c ∈ lcs) : trimNL (l.map up) = (trimNL l).map up := by
  induction l with
  | nil => rfl
  | cons c l ih =>
    have h1 := (up_lcs c (h c (List.mem_cons_self ..))).2.1
    unfold trimNL at ih ⊢
    rw [List.map_cons, List.dropWhile_cons, List.dropWhile_cons, h1]
    split
    · exact ih (fun x hx => h x (List.mem_cons_of_mem _ hx))
    · rfl
theorem trimNR_map {l : List UInt8} (h : ∀ c ∈ l, c ∈ lcs) : trimNR (l.map up) = (trimNR l).map up := by
  have := trimNL_map (l := l.reverse) (fun c hc => h c (List.mem_reverse.1 hc))
  unfold trimNL at this
  unfold trimNR
  rw [← List.map_reverse, this, List.map_reverse]
theorem trimN_map {l : List UInt8} (h : ∀ c ∈ l, c ∈ lcs) : trimNR (trimNL (l.map up)) = (trimNR (trimNL l)).map up := by
  rw [trimNL_map h]
  exact trimNR_map (fun c hc => h c (trimNL_sub hc))
theorem normGo_map {l : List UInt8} (h : ∀ c ∈ l, c ∈ lcs) : ∀ sp, normGo sp (l.map up) = normGo sp l := by
  induction l with
  | nil => intro sp; rfl
  | cons c l ih =>
    intro sp
    obtain ⟨_, h1, h2⟩ := up_lcs c (h c (List.mem_cons_self ..))
    have ih' := ih (fun x hx => h x (List.mem_cons_of_mem _ hx))
    rw [List.map_cons, normGo, normGo, h1, h2, ih', ih']
theorem normL_map {l : List UInt8} (h : ∀ c ∈ l, c ∈ lcs) : normL (l.map up) = normL l := by
  unfold normL
  rw [trimN_map h]
  exact normGo_map (fun c hc => h c (trimNL_sub (trimNR_sub hc))) false
theorem trimNR_snoc {l : List UInt8} : trimNR (l ++ [32]) = trimNR l := by
  unfold trimNR
  rw [List.reverse_append]
  rfl
theorem trimNL_cons (l : List UInt8) : trimNL (32 :: l) = trimNL l := rfl
theorem trimNL_snoc {l : List UInt8} (h : trimNL l ≠ []) : trimNL (l ++ [32]) = trimNL l ++ [32] := by
  induction l with
  | nil => exact absurd rfl h
  | cons c l ih =>
    unfold trimNL at ih h ⊢
    rw [List.cons_append, List.dropWhile_cons, List.dropWhile_cons]
    rw [List.dropWhile_cons] at h
    split
    · rename_i hc
      rw [if_pos hc] at h
      exact ih h
    · rfl
/-- A label with spaces about it. -/
theorem trimN_pad {l : List UInt8} (h : trimNL l ≠ []) : trimNR (trimNL (32 :: (l ++ [32, 32]))) = trimNR (trimNL l) := by
  have e : l ++ [32, 32] = (l ++ [32]) ++ [32] := by simp
  rw [trimNL_cons, e, trimNL_snoc (by rw [trimNL_snoc h]; simp), trimNL_snoc h, trimNR_snoc, trimNR_snoc]
set_option maxRecDepth 20000 in
/-- A text in brackets, no colon behind it, is no definition. -/
theorem refNo_label (T : List UInt8) (j : Nat) (hl : T.length ≤ 100000) (hj0 : 0 < j) (hj : j < T.length) (hjl : j ≤ 900) (h0 : bt ⟨T.toArray⟩ 0 = 91) (h1 : ∀ m, 0 < m → m < j → bt ⟨T.toArray⟩ m ≠ 91 ∧ bt ⟨T.toArray⟩ m ≠ 92 ∧ bt ⟨T.toArray⟩ m ≠ 93) (h2 : bt ⟨T.toArray⟩ j = 93) (hn : trimNR (trimNL ((ByteArray.mk T.toArray).extract (0 + 1) j).data.toList) ≠ []) (h3 : j + 1 < T.length → bt ⟨T.toArray⟩ (j + 1) ≠ 58) : RefNo T := by
  intro g w
  have hz : (ByteArray.mk T.toArray).size = T.length := List.size_toArray ..
  have hb := get_bt ⟨T.toArray⟩
  have ta := ta_bs g
  have HS := hid (skipSpace_no ⟨T.toArray⟩ 0 w (by omega) (by omega) (by rw [h0]; decide))
  have HL := hid (label_any (.pointer (some ⟨g, 0, none⟩)) ⟨T.toArray⟩ 0 j w (by omega) hj0 (by omega) (by omega) h0 (fun m m1 m2 => h1 m m1 m2) h2 hn)
  generalize trimNR (trimNL ((ByteArray.mk T.toArray).extract (0 + 1) j).data.toList) = lb at HL
  by_cases hlt : j + 1 < T.length
  · have e3 : (bt ⟨T.toArray⟩ (j + 1) == 58) = false := by simpa using h3 hlt
    have e3' : (bt ⟨T.toArray⟩ (j + 1) != 58) = true := by simp [bne, e3]
    have ei : (j : Int) + 1 = ((j + 1 : Nat) : Int) := by omega
    rw [ei] at HL
    clear h0 h1 h2 h3 ei hn
    go_enter Tryz.func283, Tryz.ntmps283
    go_wp2_with fail
    refine HS.out.mono ?_
    rintro e w1 ⟨rfl, rfl⟩
    go_wp2_with fail
    refine HL.out.mono ?_
    rintro e w1 ⟨rfl, rfl⟩
    go_wp2_with fail
    go_ret2
    exact ⟨rfl, rfl⟩
  · have ei : (j : Int) + 1 = ((j + 1 : Nat) : Int) := by omega
    rw [ei] at HL
    clear h0 h1 h2 h3 ei hn
    go_enter Tryz.func283, Tryz.ntmps283
    go_wp2_with fail
    refine HS.out.mono ?_
    rintro e w1 ⟨rfl, rfl⟩
    go_wp2_with fail
    refine HL.out.mono ?_
    rintro e w1 ⟨rfl, rfl⟩
    go_wp2_with fail
    go_ret2
    exact ⟨rfl, rfl⟩
end Go.Proofs.YtmmijmhdbpldpaaGreatDoor
/- FnReference's texts: the definition, and the three uses. -/

namespace Go.Proofs.YtmmijmhdbpldpaaGreatDoor
open Go.RowKit
structure LabL (L : List UInt8) : Prop where
  len : L.length ≤ 40
  chr : ∀ c ∈ L, c ∈ lcs
  ink : trimNR (trimNL L) ≠ []
def defD (L : List UInt8) : List UInt8 := 91 :: (L ++ [93, 58, 32, 47, 117])
theorem defD_len (L : List UInt8) : (defD L).length = L.length + 6 := by unfold defD; simp
theorem defD_lab (L : List UInt8) : (ByteArray.mk (defD L).toArray).extract (0 + 1) (1 + L.length) = ⟨L.toArray⟩ := ext_mid (p := [91]) (q := L) (r := [93, 58, 32, 47, 117]) (by simp [defD]) _ _ rfl rfl
theorem defD_dest (L : List UInt8) : (ByteArray.mk (defD L).toArray).extract (1 + L.length + 3) (ByteArray.mk (defD L).toArray).size = ⟨[47, 117].toArray⟩ := ext_mid (p := 91 :: (L ++ [93, 58, 32])) (q := [47, 117]) (r := []) (by simp [defD]) _ _ (by simp; omega) (by rw [sz_mk, defD_len]; simp)
theorem defD_ref {L : List UInt8} (H : LabL L) : RefText ⟨(defD L).toArray⟩ (1 + L.length) := by
  have hl := defD_len L
  have h40 := H.len
  refine { size := by rw [sz_mk]; omega, lab := by omega, jpos := by omega, end_ := by rw [sz_mk]; omega, h0 := bt_one (p := []) (r := L ++ [93, 58, 32, 47, 117]) (x := 91) (by simp [defD]) 0 rfl, chars := fun m h1 h2 => ?_, h93 := bt_one (p := 91 :: L) (r := [58, 32, 47, 117]) (x := 93) (by simp [defD]) _ (by simp; omega), h58 := bt_one (p := 91 :: (L ++ [93])) (r := [32, 47, 117]) (x := 58) (by simp [defD]) _ (by simp; omega), h32 := bt_one (p := 91 :: (L ++ [93, 58])) (r := [47, 117]) (x := 32) (by simp [defD]) _ (by simp; omega), dest := fun m h1 h2 => ?_, esc1 := by rw [defD_dest]; decide, esc2 := by rw [defD_dest]; decide, ink := by rw [defD_lab]; exact H.ink, ascii := fun c hc => ?_ }
  · obtain ⟨c, hc, e⟩ := at_mid (t := defD L) (p := [91]) (q := L) (r := [93, 58, 32, 47, 117]) (by simp [defD]) m (by show 1 ≤ m; omega) (by show m < 1 + L.length; omega)
    rw [e]
    have := H.chr c hc
    revert this
    exact (by decide : ∀ c ∈ lcs, (c.toNat : Int) ≠ 91 ∧ (c.toNat : Int) ≠ 92 ∧ (c.toNat : Int) ≠ 93) c
  · rw [sz_mk, hl] at h2
    obtain ⟨c, hc, e⟩ := at_mid (t := defD L) (p := 91 :: (L ++ [93, 58, 32])) (q := [47, 117]) (r := []) (by simp [defD]) m (by simp; omega) (by simp; omega)
    rw [e]
    revert hc
    exact (by unfold DE; decide : ∀ c ∈ ([47, 117] : List UInt8), DE (c.toNat : Int)) c
  · rw [defD_lab] at hc
    have := H.chr c (by simpa using hc)
    revert this
    exact (by decide : ∀ c ∈ lcs, c ≠ 91 ∧ c ≠ 93 ∧ c.toNat < 128) c
theorem defD_mem {L : List UInt8} (H : LabL L) {c : UInt8} (hc : c ∈ defD L) : c ∈ lcs ++ [91, 93, 58, 47, 117] := by
  unfold defD at hc
  simp only [List.mem_cons, List.mem_append, List.not_mem_nil, or_false] at hc
  rcases hc with rfl | hc | rfl | rfl | rfl | rfl | rfl
  · decide
  · exact List.mem_append_left _ (H.chr c hc)
  all_goals decide
/-- A line that begins with a bracket. -/
theorem br_line (T : List UInt8) (h0 : bt ⟨T.toArray⟩ 0 = 91) (hl : T.length ≤ 10000) (hc : ∀ c ∈ T, c ≠ 9) : ParLine ⟨T.toArray⟩ := by
  have hp : 0 < T.length := by
    rcases Nat.eq_zero_or_pos T.length with h | h
    · rw [List.length_eq_zero_iff.1 h] at h0
      exact absurd h0 (by decide)
    · exact h
  have htab : ∀ k, bt ⟨T.toArray⟩ k ≠ 9 := fun k => bt_mem _ k (fun z => z ≠ 9) (by decide) (fun c hm e => hc c hm (UInt8.toNat_inj.1 (by show c.toNat = 9; omega)))
  have h32 : bt ⟨T.toArray⟩ 0 ≠ 32 := by rw [h0]; decide
  refine { size := by rw [sz_mk]; omega, pos := by rw [sz_mk]; exact hp, tab := htab, q := fun k hk => by rw [reach0 h32 hk, h0]; decide, h32 := h32, hr := by rw [h0]; decide, lt_ := by rw [h0]; decide, fence := by rw [h0]; decide, tick := by rw [h0]; decide, item := ?_ }
  intro g b nl w hw
  refine startListItem_no g b 0 0 nl _ w hw (by rw [sz_mk]; omega) (Nat.zero_le _) htab (fun k hk => ?_)
  rw [reach0 h32 hk, h0]
  unfold NoItem; decide
theorem defD_line {L : List UInt8} (H : LabL L) : ParLine ⟨(defD L).toArray⟩ := br_line _ (defD_ref H).h0 (by rw [defD_len]; have := H.len; omega) (fun c hc e => by
  have := defD_mem H hc
  subst e
  revert this
  decide)
end Go.Proofs.YtmmijmhdbpldpaaGreatDoor
