/- A text fenced by tildes: its document, and its HTML. -/
import Derived.Test.YtmcjhcfhglfmlaaGreatDoorFenAdd
import Derived.Test.YtmcjhcfhglfmlaaGreatDoorCode2
import Derived.Test.YtmcjhcfhglfmlaaGreatDoorLines
import Derived.Test.YtmcjhcfhglfmlaaGreatDoorDecline2
import Derived.Test.YtmcjhcfhglfmlaaGreatDoorDecline4
import Derived.Test.YtmcjhcfhglfmlaaGreatDoorSetext
namespace Go.Proofs.YtmcjhcfhglfmlaaGreatDoor
open Go.RowKit
def rootF (a : Option Addr) (v : Sl) : Ent := ⟨98, .pointer a, v, 0, 0⟩
/-- Lines, each with a line feed behind it. -/
def unL (ls : List (List UInt8)) : List UInt8 := ls.flatMap (fun l => l ++ [10])
/-- Lines between two fences of tildes. -/
structure FenT (f0 f1 : List UInt8) (ls : List (List UInt8)) : Prop where
  a0 : ∀ c ∈ f0, c = 126
  a1 : ∀ c ∈ f1, c = 126
  n0 : 3 ≤ f0.length
  n1 : f0.length ≤ f1.length
  big : f1.length ≤ 100
  few : ls.length ≤ 600
  tot : ls.flatten.length ≤ 1000
  pos : 0 < ls.length
  chr : ∀ l ∈ ls, ∀ c ∈ l, 32 ≤ c.toNat ∧ c.toNat ≤ 125
theorem unL_cons (a : List UInt8) (t : List (List UInt8)) : unL (a :: t) = a ++ 10 :: unL t := by simp [unL]
theorem unL_ne (t : List (List UInt8)) (a : List UInt8) : unL (t ++ [a]) ≠ [] := by simp [unL]
theorem unL_not (t : List (List UInt8)) (c : UInt8) (hc : c ≠ 10) (h : ∀ a ∈ t, c ∉ a) : c ∉ unL t := by
  induction t with
  | nil => simp [unL]
  | cons a t ih =>
    rw [unL_cons]
    have h1 := h a (List.mem_cons_self ..)
    have h2 := ih (fun b hb => h b (List.mem_cons_of_mem _ hb))
    simp [h1, h2, hc]
theorem unL_len (t : List (List UInt8)) : (unL t).length = t.flatten.length + t.length := by
  induction t with
  | nil => rfl
  | cons a t ih =>
    rw [unL_cons, List.length_append, List.length_cons, ih, List.flatten_cons, List.length_append, List.length_cons]
    omega
theorem next_unL (a : List UInt8) (t : List (List UInt8)) (h : ∀ l ∈ a :: t, 10 ∉ l ∧ 13 ∉ l) : nextLine (unL (a :: t)) = (a, 10, unL t) := by
  rw [unL_cons]
  exact nextLine_cut a (unL t) (h a (List.mem_cons_self ..)).1 (h a (List.mem_cons_self ..)).2 (unL_not t 13 (by decide) (fun b hb => (h b (List.mem_cons_of_mem _ hb)).2))
theorem not_of_all {l : List UInt8} {x y : UInt8} (h : ∀ c ∈ l, c = y) (hxy : x ≠ y) : x ∉ l := fun e => hxy (h x e)
theorem not_ctl {l : List UInt8} (h : ∀ c ∈ l, 32 ≤ c.toNat ∧ c.toNat ≤ 125) (x : UInt8) (hx : x.toNat < 32) : x ∉ l := fun e => by
  have := (h x e).1
  omega
theorem FenT.plain {f0 f1 : List UInt8} {ls : List (List UInt8)} (h : FenT f0 f1 ls) : ∀ l ∈ f0 :: (ls ++ [f1]), 10 ∉ l ∧ 13 ∉ l ∧ 0 ∉ l := by
  intro l hl
  simp only [List.mem_cons, List.mem_append, List.not_mem_nil, or_false] at hl
  rcases hl with rfl | hl | rfl
  · exact ⟨not_of_all h.a0 (by decide), not_of_all h.a0 (by decide), not_of_all h.a0 (by decide)⟩
  · exact ⟨not_ctl (h.chr l hl) _ (by decide), not_ctl (h.chr l hl) _ (by decide), not_ctl (h.chr l hl) _ (by decide)⟩
  · exact ⟨not_of_all h.a1 (by decide), not_of_all h.a1 (by decide), not_of_all h.a1 (by decide)⟩
theorem til_bt {f : List UInt8} (h : ∀ c ∈ f, c = 126) (j : Nat) (hj : j < (ByteArray.mk f.toArray).size) : bt ⟨f.toArray⟩ j = 126 := by
  have hj2 : j < f.length := by simpa using (show j < f.toArray.size from hj)
  rw [bt_list, List.getElem?_eq_getElem hj2]
  have := h _ (List.getElem_mem hj2)
  simp only
  rw [this]
  rfl
theorem lin_bt {a : List UInt8} (h : ∀ c ∈ a, 32 ≤ c.toNat ∧ c.toNat ≤ 125) (k : Nat) : bt ⟨a.toArray⟩ k ≠ 9 ∧ bt ⟨a.toArray⟩ k ≠ 126 := by
  rw [bt_list]
  cases hk : a[k]? with
  | none => exact ⟨fun h => (by cases h), fun h => (by cases h)⟩
  | some y =>
    have := h y (List.mem_of_getElem? hk)
    exact ⟨fun (h0 : (y.toNat : Int) = 9) => by omega, fun (h0 : (y.toNat : Int) = 126) => by omega⟩
/-- While the lines are read. -/
def FenInv (pb g : Nat) (w0 : World) (f0 f1 : List UInt8) (ls : List (List UInt8)) (l : List UInt8) (n : Nat) (w : World) : Prop :=
  Below g w0 w ∧ HasEnt w ∧ ∃ (st : Sl) (a : Option Addr),
    (l = unL (f0 :: (ls ++ [f1])) ∧ n = 0 ∧ IsPS w g { ps0 pb with stack := st } ∧ IsStack w (g + 1) st ([] ++ [rootF a Sl.nil])) ∨
    (∃ (don rest : List (List UInt8)) (fb : Nat) (v : Sl) (el ld : Int) (c : Bool), don ++ rest = ls ∧ l = unL (rest ++ [f1]) ∧ n = don.length + 1 ∧ IsPS w g { ps0 pb with lineno := n, lineDepth := ld, stack := st, corner := c } ∧
      IsStack w (g + 1) st ([] ++ [rootF a Sl.nil] ++ [fenE fb 1 el]) ∧ IsFen w (g + 1) fb f0.length v (don.map lineV) ∧ v.n = don.length) ∨
    (∃ (v1 : Sl) (cb : Nat) (ld : Int) (c : Bool), l = [] ∧ IsPS w g { ps0 pb with lineno := n, lineDepth := ld, stack := st, corner := c } ∧ IsStack w (g + 1) st ([] ++ [rootF a v1]) ∧ v1.n = 1 ∧ w.ownsRow (g + 1) 68 1 v1.v 1 [fcbV cb] ∧ IsFCode w cb (g + 1) ls)
def FenFin (pb g : Nat) (w0 : World) (ls : List (List UInt8)) (k : Nat) (w : World) : Prop :=
  k = 0 ∧ Below g w0 w ∧ ∃ (d : Nat) (st v1 : Sl) (cb : Nat) (n : Nat) (ld : Int) (c : Bool), g < d ∧ IsPS w g { ps0 pb with lineno := n, lineDepth := ld, stack := st, corner := c, root := some ⟨d, 0, none⟩ } ∧ Blk w d 339 #[.int .i64 0, .int .i64 0, v1.v, .map none] ∧ v1.n = 1 ∧
    w.ownsRow (g + 1) 68 1 v1.v 1 [fcbV cb] ∧ IsFCode w cb (g + 1) ls
theorem HasEnt.mod {w w' : World} {S : Nat → Prop} (h : HasEnt w) (hm : Mod S w w') (hn : ¬ S 1) : HasEnt w' := Blk.mod h hm hn
def FenQ1 (pb g : Nat) (a : Option Addr) (n0 : Nat) (w w' : World) : Prop :=
  Mod (fun k => g ≤ k) w w' ∧ ∃ (st2 : Sl) (fb : Nat), IsPS w' g { ps0 pb with lineno := 1, lineDepth := 0, stack := st2 } ∧ IsStack w' (g + 1) st2 ([] ++ [rootF a Sl.nil] ++ [fenE fb 1 1]) ∧ IsFen w' (g + 1) fb n0 Sl.nil []
set_option maxRecDepth 20000 in
theorem addLine_fen0 (pb g : Nat) (f : List UInt8) (nl : Int) (st : Sl) (a : Option Addr) (w : World) (hf : ∀ c ∈ f, c = 126) (h3 : 3 ≤ f.length) (hl : f.length ≤ 100) (hent : HasEnt w) (heg : 1 < g)
    (hps : IsPS w g { ps0 pb with lineno := 1, stack := st }) (hst : IsStack w (g + 1) st ([] ++ [rootF a Sl.nil])) :
    Calls Tryz.prog 57 #[.pointer (some ⟨g, 0, none⟩), lnV 0 0 ⟨f.toArray⟩ nl] w fun e w' => e = .returned (.tuple #[]) ∧ FenQ1 pb g a f.length w w' := by
  have hsn : st.n = 1 := hst.1
  have hg := hps.lt
  have hsz : (ByteArray.mk f.toArray).size = f.length := List.size_toArray ..
  have hne : some g ≠ st.v.ownBlock := own_ne hst.2 hps (by decide)
  have hall := til_bt hf
  have hts : ∀ k, bt ⟨f.toArray⟩ k ≠ 9 := fun k => by
    rcases Nat.lt_or_ge k (ByteArray.mk f.toArray).size with h | h
    · rw [hall k h]; decide
    · unfold bt; rw [dif_neg (by omega)]; decide
  have hnot : ∀ k (x : Int), x ≠ 126 → x ≠ 0 → bt ⟨f.toArray⟩ k ≠ x := fun k x h1 h2 => by
    rcases Nat.lt_or_ge k (ByteArray.mk f.toArray).size with h | h
    · rw [hall k h]; exact fun e => h1 e.symm
    · unfold bt; rw [dif_neg (by omega)]; exact fun e => h2 e.symm
  have hbl : (trimL (ByteArray.mk f.toArray).data.toList).isEmpty = false := by
    cases f with
    | nil => simp at h3
    | cons c t =>
      have := hf c (List.mem_cons_self ..)
      subst this
      rfl
  refine (addLine_one g 6 { ps0 pb with lineno := 1, stack := st } ⟨f.toArray⟩ nl w (FenQ1 pb g a f.length w) hps hsn (by omega) (by omega) hbl ?_ ?_).mono ?_
  · intro i f' wr hi hf' hp hm
    have hst' := hst.mod hm (fun k hk e => hne (by rw [hk, e]))
    have h7 : i = 0 ∨ i = 1 ∨ i = 2 ∨ i = 3 ∨ i = 4 ∨ i = 5 := by omega
    rcases h7 with rfl | rfl | rfl | rfl | rfl | rfl
    · cases hf'
      exact newQuote_no g 0 0 nl ⟨f.toArray⟩ wr (by omega) (Nat.zero_le _) hts (fun k _ _ => hnot k 62 (by decide) (by decide))
    · cases hf'
      exact newATX_no g 0 0 nl ⟨f.toArray⟩ wr (by omega) (Nat.zero_le _) hts (fun k _ _ => hnot k 35 (by decide) (by decide))
    · cases hf'
      exact newSetext_no (g + 1) g 0 _ [] (rootF a Sl.nil) a 0 nl ⟨f.toArray⟩ wr hp hst' (by simp) (by simp [hsn]) rfl rfl
    · cases hf'
      exact newHR_no g 0 0 nl ⟨f.toArray⟩ wr (by omega) (Nat.zero_le _) hts (fun k _ => ⟨hnot k 42 (by decide) (by decide), hnot k 45 (by decide) (by decide), hnot k 95 (by decide) (by decide)⟩)
    · cases hf'
      refine newListItem_no (g + 1) g 0 _ (rootF a Sl.nil) a 0 nl ⟨f.toArray⟩ wr hp hst' rfl rfl rfl (by omega) (Nat.zero_le _) hts (fun k _ => ⟨hnot k 45 (by decide) (by decide), hnot k 42 (by decide) (by decide), hnot k 43 (by decide) (by decide), ?_⟩)
      rcases Nat.lt_or_ge k (ByteArray.mk f.toArray).size with h | h
      · rw [hall k h]; exact .inr (by decide)
      · unfold bt; rw [dif_neg (by omega)]; exact .inl (by decide)
    · cases hf'
      exact newHTML_no g 0 0 nl ⟨f.toArray⟩ wr (by omega) (Nat.zero_le _) hts (fun k _ => hnot k 60 (by decide) (by decide))
  · intro f' wr hf' hp hm
    cases hf'
    have hst' := hst.mod hm (fun k hk e => hne (by rw [hk, e]))
    refine (newFence_yes (g + 1) g _ (rootF a Sl.nil) nl ⟨f.toArray⟩ wr hp.lt hp hst' rfl (hent.mod hm (by omega)) (by omega) (by omega) (fun j hj => hall j hj)).mono ?_
    rintro e w' ⟨rfl, ⟨st2, fb, hps', hst'', hfen, _, hmod⟩, hsize, hkeep⟩
    rw [hsz] at hfen
    refine ⟨rfl, ⟨?_, st2, fb, hps', hst'', hfen⟩, hsize, hkeep⟩
    refine (hm.mono (S' := fun k => g ≤ k) (fun k _ e => by omega)).trans hmod (fun k _ e => ?_)
    rcases e with e | e
    · omega
    · have := ownBase hst'.2 e; omega
  · rintro e w' ⟨rfl, w1, lb, cs, ⟨hm, st2, fb, hps', hst', cf, h1, h2, hfen, hrow, hBf⟩, hlb, hblk, hmod⟩
    have h1' : g ≠ lb := Blk.ne_ hps' hblk (by decide)
    refine ⟨rfl, hm.trans hmod (fun k hk e => by omega), st2, fb, hps'.mod hmod h1', hst'.mod hmod (fun k hk e => own_ne hst'.2 hblk (by decide) (by rw [hk, e])), cf, h1, h2, hfen.mod hmod (Blk.ne_ hfen hblk (by decide)), World.ownsRow_nil _ _ _ _, hBf⟩
theorem fenH (pb g : Nat) (w0 : World) (f0 f1 : List UInt8) (ls : List (List UInt8)) (hT : FenT f0 f1 ls) (hpb : pb < g) (heg : 1 < g) (hp : w0.cell? ⟨pb, 2, none⟩ = some (.bool false)) : ParseH pb g none 0 (FenInv pb g w0 f0 f1 ls) (FenFin pb g w0 ls) (unL (f0 :: (ls ++ [f1]))).length where
  line := by
    intro l n w ⟨hb, hent, st, a, h⟩ hne hll
    have hL := unL_len (f0 :: (ls ++ [f1]))
    have hfew := hT.few
    have htot := hT.tot
    have hbig := hT.big
    have hn1 := hT.n1
    simp only [List.flatten_cons, List.flatten_append, List.flatten_nil, List.append_nil, List.length_append, List.length_cons, List.length_nil] at hL
    rcases h with ⟨rfl, rfl, hps, hst⟩ | ⟨don, rest, fb, v, el, ld, c, hdr, rfl, rfl, hps, hst, hfen, hv⟩ | ⟨_, _, _, _, h, _⟩
    · refine ⟨⟨_, hps, rfl⟩, by omega, ?_⟩
      rw [next_unL f0 (ls ++ [f1]) (fun l hl => ⟨(hT.plain l hl).1, (hT.plain l hl).2.1⟩)]
      have hne2 : some g ≠ st.v.ownBlock := own_ne hst.2 hps (by decide)
      refine (addLine_fen0 pb g f0 10 st a _ hT.a0 hT.n0 (by omega) (hent.far (p := ⟨g, 3, none⟩) (Blk.ne_ hent hps (by decide)) _) heg (hps.set3 _) (hst.far (p := ⟨g, 3, none⟩) hne2 _)).mono ?_
      rintro e w' ⟨rfl, hm, st2, fb, hps', hst', hfen⟩
      refine ⟨rfl, ?_, ?_, st2, a, .inr (.inl ⟨[], ls, fb, Sl.nil, 1, 0, false, rfl, rfl, rfl, hps', hst', hfen, rfl⟩)⟩
      · exact (hb.setCell (p := ⟨g, 3, none⟩) (Nat.le_refl _) _).trans (hm.toBelow (B := g) (by simp; exact Nat.le_of_lt hps.lt) (fun k hk e => by omega))
      · exact (hent.far (p := ⟨g, 3, none⟩) (Blk.ne_ hent hps (by decide)) _ : HasEnt _).mod hm (by omega)
    · have hrl : don.length + rest.length = ls.length := by rw [← hdr, List.length_append]
      have hrl2 : ∀ l ∈ rest, l ∈ ls := fun l hl => by rw [← hdr]; exact List.mem_append_right _ hl
      have hgl := hps.lt
      have hdl : don.length ≤ 600 := by omega
      have hul : (unL (rest ++ [f1])).length ≤ 10000 := by omega
      refine ⟨⟨_, hps, rfl⟩, by omega, ?_⟩
      have hne2 : some g ≠ st.v.ownBlock := own_ne hst.2 hps (by decide)
      have hst3 := hst.far (p := ⟨g, 3, none⟩) hne2 (.int .i64 (((don.length + 1 : Nat) : Int) + 1))
      have hfen3 := hfen.far (p := ⟨g, 3, none⟩) hps (by decide) (by decide) (.int .i64 (((don.length + 1 : Nat) : Int) + 1))
      have hent3 : HasEnt (w.setCell ⟨g, 3, none⟩ (.int .i64 (((don.length + 1 : Nat) : Int) + 1))) := hent.far (p := ⟨g, 3, none⟩) (Blk.ne_ hent hps (by decide)) _
      cases rest with
      | nil =>
        rw [show unL ([] ++ [f1]) = unL [f1] from rfl, next_unL f1 [] (fun l hl => by
          have := hT.plain l (by simp at hl; simp [hl])
          exact ⟨this.1, this.2.1⟩)]
        rw [List.append_nil] at hdr
        subst hdr
        have hsz : (ByteArray.mk f1.toArray).size = f1.length := List.size_toArray ..
        refine (addLine_fenEnd (g + 1) g fb f0.length { ps0 pb with lineno := ((don.length + 1 : Nat) : Int) + 1, lineDepth := ld, stack := st, corner := c } a v (don.map lineV) 1 el 10 ⟨f1.toArray⟩ _ (Nat.lt_succ_self _) (by simp; exact hgl) (hps.set3 _) hst3 hfen3 hT.n0 hent3 (by omega) (by omega) (fun j hj => til_bt hT.a1 j hj)).mono ?_
        rintro e w' ⟨rfl, st2, v1, cb, sl, el2, cf, v2, a1, a2, a3, a4, a5, a6, a7, hm⟩
        refine ⟨rfl, ?_, ?_, st2, a, .inr (.inr ⟨v1, cb, 0, c, rfl, ?_, a2, a3, a4, sl, el2, cf, v2, a5, a6, a7⟩)⟩
        · exact (hb.setCell (p := ⟨g, 3, none⟩) (Nat.le_refl _) _).trans (hm.toBelow (B := g) (by simp; exact Nat.le_of_lt hgl) (fun k hk e => by omega))
        · exact hent3.mod hm (by omega)
        · have e1 : (((don.length + 1 + 1 : Nat)) : Int) = ((don.length + 1 : Nat) : Int) + 1 := by omega
          rw [e1]; exact a1
      | cons x t =>
        have hxm := hrl2 x (List.mem_cons_self ..)
        have hx := hT.chr x hxm
        rw [show unL (x :: t ++ [f1]) = unL (x :: (t ++ [f1])) from rfl, next_unL x (t ++ [f1]) (fun l hl => by
          have : l ∈ f0 :: (ls ++ [f1]) := by
            simp only [List.mem_cons, List.mem_append, List.not_mem_nil, or_false] at hl ⊢
            rcases hl with rfl | hl | rfl
            · exact .inr (.inl hxm)
            · exact .inr (.inl (hrl2 l (List.mem_cons_of_mem _ hl)))
            · exact .inr (.inr rfl)
          exact ⟨(hT.plain l this).1, (hT.plain l this).2.1⟩)]
        have hxl : x.length ≤ 10000 := by
          rw [show unL (x :: t ++ [f1]) = unL (x :: (t ++ [f1])) from rfl, unL_cons, List.length_append] at hul
          omega
        refine (addLine_fen (g + 1) g fb f0.length { ps0 pb with lineno := ((don.length + 1 : Nat) : Int) + 1, lineDepth := ld, stack := st, corner := c } (rootF a Sl.nil) v (don.map lineV) 1 el 10 ⟨x.toArray⟩ _ (Nat.lt_succ_self _) (by simp; exact hgl) (hps.set3 _) hst3 hfen3 hT.n0 (by omega) hent3 (bsz hxl) (fun k => (lin_bt hx k).1) (fun k => (lin_bt hx k).2)).mono ?_
        rintro e w' ⟨rfl, v', el', hv', hps', hst', hfen', hm⟩
        refine ⟨rfl, ?_, ?_, st, a, .inr (.inl ⟨don ++ [x], t, fb, v', el', 1, (c || !((10 : Int) == 10)), by simpa using hdr, rfl, by simp, ?_, hst', ?_, by rw [hv', hv]; simp⟩)⟩
        · exact (hb.setCell (p := ⟨g, 3, none⟩) (Nat.le_refl _) _).trans (hm.toBelow (B := g) (by simp; exact Nat.le_of_lt hgl) (fun k hk e => by omega))
        · exact hent3.mod hm (by omega)
        · have e1 : (((don.length + 1 + 1 : Nat)) : Int) = ((don.length + 1 : Nat) : Int) + 1 := by omega
          rw [e1]; exact hps'
        · rw [List.map_append]; exact hfen'
    · exact absurd h hne
  drew := by
    intro l n w k ⟨hb, hent, st, a, h⟩
    refine ⟨below_drewN hb k, hent, st, a, ?_⟩
    rcases h with ⟨h1, h2, hps, hst⟩ | ⟨don, rest, fb, v, el, ld, c, h1, h2, h3, hps, hst, ⟨cf, f1, f2, f3, f4, f5⟩, hv⟩ | ⟨v1, cb, ld, c, h1, hps, hst, hv, hin, sl, el, cf, v, c1, c2, c3⟩
    · exact .inl ⟨h1, h2, hps.drewN k, hst.drewN k⟩
    · exact .inr (.inl ⟨don, rest, fb, v, el, ld, c, h1, h2, h3, hps.drewN k, hst.drewN k, ⟨cf, f1, f2, Blk.drewN f3 k, World.ownsRow.drewN f4 k, f5⟩, hv⟩)
    · exact .inr (.inr ⟨v1, cb, ld, c, h1, hps.drewN k, hst.drewN k, hv, World.ownsRow.drewN hin k, sl, el, cf, v, c1, Blk.drewN c2 k, World.ownsRow.drewN c3 k⟩)
  trim := by
    intro n w ⟨hb, hent, st, a, h⟩
    rcases h with ⟨h1, _, _, _⟩ | ⟨don, rest, fb, v, el, ld, c, _, h2, _⟩ | ⟨v1, cb, ld, c, h1, hps, hst, hv, hin, sl, el, cf, v, c1, c2, c3⟩
    · exact absurd h1.symm (by rw [show f0 :: (ls ++ [f1]) = (f0 :: ls) ++ [f1] from rfl]; exact unL_ne _ _)
    · exact absurd h2.symm (unL_ne _ _)
    · have hgl := hps.lt
      refine (trimRoot_any (g + 1) g _ a v1 0 0 w hps hst).mono ?_
      rintro e w' ⟨rfl, d, st', hd, hps', hblk, hm⟩
      refine ⟨rfl, rfl, hb.trans (hm.toBelow (B := g) (Nat.le_of_lt hgl) (fun k hk e => by omega)), d, st', v1, cb, n, ld, c, by omega, hps', hblk, hv, ?_, sl, el, cf, v, c1, c2.mod hm (fun e => by subst e; exact Blk.ne_ c2 hps (by decide) rfl), ?_⟩
      · exact own_mod hin hm (fun q hq e => by subst e; exact own_ne hin hps (by decide) hq.symm)
      · exact own_mod c3 hm (fun q hq e => by subst e; exact own_ne c3 hps (by decide) hq.symm)
  at_ := by
    intro k w ⟨hk, hb, d, st, v1, cb, n, ld, c, hd, hps, hblk, _⟩
    refine ⟨by omega, _, 0, hps, rfl, ?_⟩
    rw [hb.cell (by exact hpb)]; exact hp
  text := by
    intro k w _ hk
    omega
theorem isFCode_kept {w w' : World} {cb base b : Nat} {ls : List (List UInt8)} (h : IsFCode w cb base ls) (hk : Kept b w w') (hb : w.heap.size ≤ b) : IsFCode w' cb base ls := by
  obtain ⟨sl, el, cf, v, hcf, hblk, hrow⟩ := h
  refine ⟨sl, el, cf, v, hcf, hblk.kept hk (by have := hblk.lt; omega) (by decide), own_kept hrow hk ?_ (by decide)⟩
  intro e
  have := ownLt hrow e
  omega
theorem fcode_prints (w : World) (b cb base : Nat) (L : List (List UInt8)) (hb : w.heap.size ≤ b) (hcode : IsFCode w cb base L) (hn0 : 0 < L.length) (hn : L.length ≤ 1000) (hlen : L.flatten.length ≤ 10000) : Prints w b [] (fcbV cb) (codeOut L) := by
  refine ⟨_, _, 338, .pointer (some ⟨cb, 0, none⟩), rfl, fun W => by kernel_rfl, Go.Proofs.enters_of Tryz.func338 (by kernel_rfl) rfl, fun B W hk hbf hB hl => ?_⟩
  exact codeHTMLF_any B b cb base L W (isFCode_kept hcode hk hb) hbf hB hn0 hn hlen
theorem codeOut_tot (L : List (List UInt8)) : (codeOut L).length ≤ 25 + (6 * L.flatten.length + L.length) := by
  have h1 := code_all L
  unfold codeOut codeHead codeTail
  simp only [List.length_append, List.length_cons, List.length_nil]
  omega
set_option maxRecDepth 20000 in
/-- The HTML of a text, whatever its parse hands back; the parser's world is one behind w. -/
theorem HTML_gen2 (o : Opt) (s : ByteArray) (w : World) (out : List UInt8)
    (hP : ∀ g w1, Below w.heap.size w w1 → Blk w1 g 76 o.parser → Calls Tryz.prog 31 #[.pointer (some ⟨g, 0, none⟩), .string s] w1 (ParsedDoc w1 out)) :
    Calls Tryz.prog 12 #[o.v, .string s] w fun e w' => e = .returned (.string ⟨out.toArray⟩) ∧ Below w.heap.size w w' := by
  have HP := hid hP
  clear hP
  obtain ⟨o0, o1, o2, o3, o4, o5, o6, o7, o8, o9⟩ := o
  have hv : (Opt.mk o0 o1 o2 o3 o4 o5 o6 o7 o8 o9).v = .agg #[.bool o0, .bool o1, .bool o2, .bool o3, .bool o4, .bool o5, .bool o6, .bool o7, .bool o8, .bool o9] := rfl
  rw [hv]
  go_enter Tryz.func12, Tryz.ntmps12
  go_wp2_with fail
  refine (parser_any ⟨o0, o1, o2, o3, o4, o5, o6, o7, o8, o9⟩ _).mono ?_
  rintro e w1 ⟨g, rfl, hg, hblk, hb⟩
  have HB := hid hb
  have HBL := hid hblk
  have HBW := hid (((Below.refl w.heap.size w).alloc (Nat.le_refl _) _).trans (hb.mono (by simp)))
  clear hblk hb
  go_wp2_with fail
  refine (HP.out g _ HBW.out HBL.out).mono ?_
  rintro e w2 ⟨d, rfl, hd, hb2⟩
  have HB2 := hid hb2
  have HD := hid hd
  clear hb2 hd
  go_wp2_with fail
  refine (toHTML_doc d out _ HD.out).mono ?_
  rintro e w3 ⟨rfl, hb3⟩
  have HB3 := hid hb3
  clear hb3
  go_wp2_with fail
  go_ret
  exact ⟨rfl, ((((Below.refl _ _).alloc (Nat.le_refl _) _).trans (HB.out.mono (by simp))).trans (HB2.out.mono (Nat.le_trans (by simp) HB.out.size))).trans (HB3.out.mono (Nat.le_trans (Nat.le_trans (by simp) HB.out.size) HB2.out.size))⟩
theorem HTML_fence (f0 f1 : List UInt8) (ls : List (List UInt8)) (w : World) (hT : FenT f0 f1 ls) (hent : HasEnt w) :
    Calls Tryz.prog 12 #[plainO.v, .string ⟨(unL (f0 :: (ls ++ [f1]))).toArray⟩] w fun e w' => e = .returned (.string ⟨(codeOut ls).toArray⟩) ∧ Below w.heap.size w w' := by
  refine HTML_gen2 plainO _ w (codeOut ls) (fun pb w1 hbw hblkp => ?_)
  have hent1 : HasEnt w1 := hent.below hbw
  have hp : w1.cell? ⟨pb, 2, none⟩ = some (.bool false) := by rw [hblkp.cell]; rfl
  have hpb : pb < w1.heap.size := World.block_lt_of_cell? w1 _ hp
  have heg : 1 < w1.heap.size := Blk.lt hent1
  have hfew := hT.few
  have htot := hT.tot
  have hbig := hT.big
  have hn1 := hT.n1
  have hL := unL_len (f0 :: (ls ++ [f1]))
  simp only [List.flatten_cons, List.flatten_append, List.flatten_nil, List.append_nil, List.length_append, List.length_cons, List.length_nil] at hL
  have h0 : (0 : UInt8) ∉ unL (f0 :: (ls ++ [f1])) := unL_not _ 0 (by decide) (fun a ha => (hT.plain a ha).2.2)
  have hpar : Calls Tryz.prog 46 #[.pointer (some ⟨pb, 0, none⟩), .string ⟨(unL (f0 :: (ls ++ [f1]))).toArray⟩] w1 fun e w' => ∃ d c, e = .returned (.tuple #[.pointer (some ⟨d, 0, none⟩), .bool c]) ∧ DocPrints w' d (codeOut ls) ∧ Below w1.heap.size w1 w' := by
    refine (parse_gen pb _ w1 none 0 (FenInv pb w1.heap.size w1 f0 f1 ls) (FenFin pb w1.heap.size w1 ls) (by omega) (idxB_not _ 0 h0) (fenH pb w1.heap.size w1 f0 f1 ls hT hpb heg hp) ?_).mono ?_
    · intro w' bn hps hb
      refine (addBlock_top (w1.heap.size + 1) w1.heap.size (ps0 pb) [] w' 98 (.pointer (some ⟨bn, 0, none⟩)) hps.lt hps ⟨rfl, World.ownsRow_nil _ _ _ _⟩ rfl (by simp)).mono ?_
      rintro e w2 ⟨rfl, v, hps1, hst, _, hm⟩
      refine ⟨rfl, ?_, ?_, v, some ⟨bn, 0, none⟩, .inl ⟨rfl, rfl, hps1, hst⟩⟩
      · exact hb.trans (hm.toBelow (B := w1.heap.size) hb.size (fun k hk e => by
          rcases e with e | e
          · omega
          · simp [ps0, Sl.nil, Value.ownBlock] at e))
      · refine (hent1.below hb).mod hm (fun e => ?_)
        rcases e with e | e
        · omega
        · simp [ps0, Sl.nil, Value.ownBlock] at e
    · rintro e w' ⟨r, k, rfl, hps, w0, ⟨_, hb, d, st, v1, cb, n, ld, c, hd, hps0, hblk, hv1, hin, hcode⟩, rfl⟩
      have h1 := hps.c1
      have h2 := hps0.c1
      rw [show (w0.drewN k).cell? ⟨w1.heap.size, 1, none⟩ = w0.cell? ⟨w1.heap.size, 1, none⟩ from rfl, h2] at h1
      simp only [Option.some.injEq, Value.pointer.injEq] at h1
      rw [← h1]
      have hol := codeOut_tot ls
      refine ⟨d, _, rfl, ⟨0, 0, v1, none, w1.heap.size + 1, [fcbV cb], [codeOut ls], hblk, ?_, by omega, by simp, by omega, rfl, ?_⟩, below_drewN hb k⟩
      · rw [hv1]; exact World.ownsRow.drewN hin k
      · intro b i y o hbz hy ho
        cases i with
        | zero =>
          simp at hy ho
          subst hy ho
          exact fcode_prints _ b cb (w1.heap.size + 1) ls hbz hcode hT.pos (by omega) (by omega)
        | succ i => simp at hy
  go_enter Tryz.func31, Tryz.ntmps31
  go_wp2_with (go_at_call 46; refine hpar.mono ?_; rintro e w1 ⟨d, c, rfl, hd, hb⟩)
  go_ret
  exact ⟨d, rfl, hd, hb⟩
end Go.Proofs.YtmcjhcfhglfmlaaGreatDoor
