/- A text of indented lines: its document, and its HTML. -/
import Derived.Test.YtohokfbjmfjjaaaGreatDoorAdd
import Derived.Test.YtohokfbjmfjjaaaGreatDoorAdd2
import Derived.Test.YtohokfbjmfjjaaaGreatDoorPre3
import Derived.Test.YtohokfbjmfjjaaaGreatDoorCode
import Derived.Test.YtohokfbjmfjjaaaGreatDoorLines
import Derived.Test.YtohokfbjmfjjaaaGreatDoorDecline4
import Derived.Test.YtohokfbjmfjjaaaGreatDoorSetext
namespace Go.Proofs.YtohokfbjmfjjaaaGreatDoor
open Go.RowKit
def pad (l : List UInt8) : List UInt8 := if l = [] then [] else 32 :: 32 :: 32 :: 32 :: l
/-- Printable lines, of which the first and the last one bear ink. -/
structure Inked (ls : List (List UInt8)) : Prop where
  few : ls.length ≤ 50
  len : ∀ l ∈ ls, l.length ≤ 200
  chr : ∀ l ∈ ls, ∀ c ∈ l, 32 ≤ c.toNat ∧ c.toNat ≤ 126
  first : ∃ a t, ls = a :: t ∧ ∃ c ∈ a, c ≠ 32
  last : ∃ t a, ls = t ++ [a] ∧ ∃ c ∈ a, c ≠ 32
theorem pad_ne {a : List UInt8} (h : a ≠ []) : pad a = 32 :: 32 :: 32 :: 32 :: a := by unfold pad; rw [if_neg h]
theorem pad_chr {a : List UInt8} (h : ∀ c ∈ a, 32 ≤ c.toNat ∧ c.toNat ≤ 126) : ∀ c ∈ pad a, 32 ≤ c.toNat ∧ c.toNat ≤ 126 := by
  intro c hc
  unfold pad at hc
  split at hc
  · cases hc
  · simp only [List.mem_cons] at hc
    rcases hc with rfl | rfl | rfl | rfl | hc
    · decide
    · decide
    · decide
    · decide
    · exact h c hc
theorem chr_not {a : List UInt8} (h : ∀ c ∈ a, 32 ≤ c.toNat ∧ c.toNat ≤ 126) (x : UInt8) (hx : x.toNat < 32) : x ∉ a := fun hm => by have := h x hm; omega
theorem chr_bt {a : List UInt8} (h : ∀ c ∈ a, 32 ≤ c.toNat ∧ c.toNat ≤ 126) (k : Nat) : bt ⟨a.toArray⟩ k ≠ 9 := by
  rw [bt_list]
  cases hk : a[k]? with
  | none => exact fun h => by cases h
  | some y =>
    have := h y (List.mem_of_getElem? hk)
    intro (h0 : (y.toNat : Int) = 9)
    omega
theorem pad_len (a : List UInt8) : (pad a).length ≤ a.length + 4 := by
  unfold pad
  split <;> simp
theorem pad_bt (a : List UInt8) (h : a ≠ []) : ∀ k, k < 4 → bt ⟨(pad a).toArray⟩ k = 32 := by
  intro k hk
  rw [bt_list, pad_ne h]
  have : k = 0 ∨ k = 1 ∨ k = 2 ∨ k = 3 := by omega
  rcases this with rfl | rfl | rfl | rfl <;> rfl
theorem pad_text (a : List UInt8) (h : a ≠ []) : (ByteArray.mk (pad a).toArray).extract 4 (ByteArray.mk (pad a).toArray).size = ⟨a.toArray⟩ := by
  rw [show (ByteArray.mk (pad a).toArray).size = (pad a).length from List.size_toArray .., ex_from, pad_ne h]
  rfl
theorem next_pad (a : List UInt8) (t : List (List UInt8)) (h : ∀ l ∈ a :: t, ∀ c ∈ l, 32 ≤ c.toNat ∧ c.toNat ≤ 126) : nextLine (joinL ((a :: t).map pad)) = (pad a, (if t = [] then 0 else 10), joinL (t.map pad)) := by
  have ha := pad_chr (h a (List.mem_cons_self ..))
  by_cases ht : t = []
  · subst ht
    rw [if_pos rfl]
    exact nextLine_last _ (chr_not ha 10 (by decide)) (chr_not ha 13 (by decide))
  · rw [if_neg ht, List.map_cons, joinL_cons _ _ (by simpa using ht)]
    refine nextLine_cut _ _ (chr_not ha 10 (by decide)) (chr_not ha 13 (by decide)) (joinL_not _ 13 (by decide) ?_)
    intro b hb
    obtain ⟨c, hc, rfl⟩ := List.mem_map.1 hb
    exact chr_not (pad_chr (h c (List.mem_cons_of_mem _ hc))) 13 (by decide)
theorem joinL_len (ls : List (List UInt8)) (h : ∀ l ∈ ls, l.length ≤ 204) : (joinL ls).length ≤ 205 * ls.length := by
  induction ls with
  | nil => simp [joinL]
  | cons a t ih =>
    have h1 := h a (List.mem_cons_self ..)
    have h2 := ih (fun l hl => h l (List.mem_cons_of_mem _ hl))
    by_cases ht : t = []
    · subst ht; simp [joinL]; omega
    · rw [joinL_cons _ _ ht]
      simp only [List.length_append, List.length_cons]
      omega
theorem joinL_ink (t : List (List UInt8)) (a : List UInt8) (h : ∃ c ∈ a, c ≠ 32) : joinL ((t ++ [a]).map pad) ≠ [] := by
  obtain ⟨c, hc, _⟩ := h
  have ha : a ≠ [] := by rintro rfl; cases hc
  induction t with
  | nil => simp [joinL, pad_ne ha]
  | cons b t ih =>
    rw [List.cons_append, List.map_cons, joinL_cons _ _ (by simp)]
    simp
def rootN (a : Option Addr) : Ent := ⟨70, .pointer a, Sl.nil, 0, 0⟩
/-- While the lines are read. -/
def PreInv (pb g : Nat) (w0 : World) (ls : List (List UInt8)) (l : List UInt8) (n : Nat) (w : World) : Prop :=
  Below g w0 w ∧ ∃ (st : Sl) (a : Option Addr), (l = joinL (ls.map pad) ∧ n = 0 ∧ IsPS w g { ps0 pb with stack := st } ∧ IsStack w (g + 1) st ([] ++ [rootN a])) ∨
    (∃ (don rest : List (List UInt8)) (qb : Nat) (v : Sl) (el ld : Int) (c : Bool), don ++ rest = ls ∧ don ≠ [] ∧ l = joinL (rest.map pad) ∧ n = don.length ∧ IsPS w g { ps0 pb with lineno := n, lineDepth := ld, stack := st, corner := c } ∧
      IsStack w (g + 1) st ([] ++ [rootN a] ++ [preE qb 1 el]) ∧ IsPre w (g + 1) qb v (don.map lineV) ∧ v.n = don.length)
def PreFin (pb g : Nat) (w0 : World) (ls : List (List UInt8)) (k : Nat) (w : World) : Prop :=
  k = 0 ∧ Below g w0 w ∧ ∃ (d : Nat) (st v1 : Sl) (cb : Nat) (n : Nat) (ld : Int) (c : Bool), g < d ∧ IsPS w g { ps0 pb with lineno := n, lineDepth := ld, stack := st, corner := c, root := some ⟨d, 0, none⟩ } ∧ Blk w d 332 #[.int .i64 0, .int .i64 0, v1.v, .map none] ∧ v1.n = 1 ∧
    w.ownsRow (g + 1) 45 1 v1.v 1 [cbV cb] ∧ IsCode w cb (g + 1) ls
/-- What the first line leaves. -/
def PreQ (pb g : Nat) (a : Option Addr) (txt : ByteArray) (nl : Int) (w w' : World) : Prop :=
  Mod (fun k => g ≤ k) w w' ∧ ∃ st qb v, IsPS w' g { ps0 pb with lineno := 1, lineDepth := 0, stack := st, corner := crn false nl } ∧ IsStack w' (g + 1) st ([] ++ [rootN a] ++ [preE qb 1 1]) ∧ IsPre w' (g + 1) qb v [.string txt] ∧ v.n = 1
theorem stack_ne4 {w : World} {B : Nat} {s : Sl} {es : List Ent} {g : Nat} {t : TypeId} {cs : Array Value} (h : IsStack w B s es) (hg : Blk w g t cs) (ht : 91 ≠ t) : some g ≠ s.v.ownBlock := own_ne h.2 hg ht
set_option maxHeartbeats 1600000 in
theorem addLine_first (pb g : Nat) (b : List UInt8) (nl : Int) (st : Sl) (a : Option Addr) (w : World) (hb : ∀ c ∈ b, 32 ≤ c.toNat ∧ c.toNat ≤ 126) (hlen : b.length ≤ 200) (hink : ∃ c ∈ b, c ≠ 32)
    (hps : IsPS w g { ps0 pb with lineno := 1, stack := st }) (hst : IsStack w (g + 1) st ([] ++ [rootN a])) :
    Calls Tryz.prog 27 #[.pointer (some ⟨g, 0, none⟩), lnV 0 0 ⟨(pad b).toArray⟩ nl] w fun e w' => e = .returned (.tuple #[]) ∧ PreQ pb g a ⟨b.toArray⟩ nl w w' := by
  obtain ⟨c0, hc0, hc32⟩ := hink
  have hbne : b ≠ [] := by rintro rfl; cases hc0
  have hc0st : isST c0 = false := isST_not (fun h => hc32 (UInt8.toNat_inj.1 (by simp; omega))) (fun h => by have := hb c0 hc0; omega)
  have hpl := pad_len b
  have hsz : (ByteArray.mk (pad b).toArray).size ≤ 1000000 := bsz (by omega)
  have h4 := pad_bt b hbne
  have hsn : st.n = 1 := hst.1
  have hg := hps.lt
  have hne : some g ≠ st.v.ownBlock := stack_ne4 hst hps (by decide)
  have hts := chr_bt (pad_chr hb)
  have hinkall : (trimL (pad b)).isEmpty = false := by
    cases he : (trimL (pad b)).isEmpty with
    | false => rfl
    | true =>
      rw [List.isEmpty_iff] at he
      have := while_nil isST (pad b) he c0 (by rw [pad_ne hbne]; simp [hc0])
      rw [hc0st] at this; cases this
  have hinkdrop : (trimL ((ByteArray.mk (pad b).toArray).data.toList.drop 4)).isEmpty = false := by
    rw [show (ByteArray.mk (pad b).toArray).data.toList = pad b from rfl, pad_ne hbne]
    show (trimL b).isEmpty = false
    cases he : (trimL b).isEmpty with
    | false => rfl
    | true =>
      rw [List.isEmpty_iff] at he
      have := while_nil isST b he c0 hc0
      rw [hc0st] at this; cases this
  have hsz4 : 4 ≤ (ByteArray.mk (pad b).toArray).size := by
    rw [show (ByteArray.mk (pad b).toArray).size = (pad b).length from List.size_toArray .., pad_ne hbne]
    simp
  have hreach : ∀ k, Reach ⟨(pad b).toArray⟩ 0 k → bt ⟨(pad b).toArray⟩ k = 32 := fun k h => h4 k (by have := h.2.1; omega)
  refine (addLine_one g 7 { ps0 pb with lineno := 1, stack := st } ⟨(pad b).toArray⟩ nl w (PreQ pb g a ⟨b.toArray⟩ nl w) hps hsn hsz (by omega) (by simpa using hinkall) ?_ ?_).mono ?_
  · intro i f wr hi hf hp hm
    have hst' := hst.mod hm (fun k hk e => hne (by rw [hk, e]))
    have h7 : i = 0 ∨ i = 1 ∨ i = 2 ∨ i = 3 ∨ i = 4 ∨ i = 5 ∨ i = 6 := by omega
    rcases h7 with rfl | rfl | rfl | rfl | rfl | rfl | rfl
    · cases hf
      exact newQuote_no g 0 0 nl ⟨(pad b).toArray⟩ wr (by omega) (Nat.zero_le _) hts (fun k _ hk => by rw [h4 k (by omega)]; decide)
    · cases hf
      exact newATX_no g 0 0 nl ⟨(pad b).toArray⟩ wr (by omega) (Nat.zero_le _) hts (fun k _ hk => by rw [h4 k (by omega)]; decide)
    · cases hf
      exact newSetext_no (g + 1) g 0 _ [] (rootN a) a 0 nl ⟨(pad b).toArray⟩ wr hp hst' (by simp) (by simp [hsn]) rfl rfl
    · cases hf
      exact newHR_no g 0 0 nl ⟨(pad b).toArray⟩ wr (by omega) (Nat.zero_le _) hts (fun k h => by rw [hreach k h]; decide)
    · cases hf
      exact newListItem_no (g + 1) g 0 _ (rootN a) a 0 nl ⟨(pad b).toArray⟩ wr hp hst' rfl rfl rfl (by omega) (Nat.zero_le _) hts (fun k h => by rw [hreach k h]; unfold NoItem; decide)
    · cases hf
      exact newHTML_no g 0 0 nl ⟨(pad b).toArray⟩ wr (by omega) (Nat.zero_le _) hts (fun k h => by rw [hreach k h]; decide)
    · cases hf
      exact newFence_no g 0 0 nl ⟨(pad b).toArray⟩ wr (by omega) (Nat.zero_le _) hts (fun k h => by rw [hreach k h]; decide)
  · intro f wr hf hp hm
    cases hf
    have hst' := hst.mod hm (fun k hk e => hne (by rw [hk, e]))
    refine (newPre_yes (g + 1) g _ (rootN a) a 0 nl ⟨(pad b).toArray⟩ wr hp.lt hp hst' rfl rfl rfl hsz hts h4 hsz4 hinkdrop).mono ?_
    rintro e w' ⟨rfl, ⟨st2, qb, v, hps', hst'', hpre, hown, hmod⟩, hsize, hkeep⟩
    rw [pad_text b hbne] at hpre
    refine ⟨rfl, ⟨?_, st2, qb, v, hps', hst'', hpre, ?_⟩, hsize, hkeep⟩
    · refine (hm.mono (S' := fun k => g ≤ k) (fun k _ e => by omega)).trans hmod (fun k _ e => ?_)
      rcases e with e | e
      · omega
      · have := own_base hst'.2 e; omega
    · have := hpre.2.1.1; simp at this; omega
  · rintro e w' ⟨rfl, w1, lb, cs, ⟨hm, st2, qb, v, hps', hst', hpre, hv⟩, hlb, hblk, hmod⟩
    have h1 : g ≠ lb := Blk.ne_ hps' hblk (by decide)
    refine ⟨rfl, hm.trans hmod (fun k hk e => by omega), st2, qb, v, hps'.mod hmod h1, hst'.mod hmod (fun k hk e => stack_ne4 hst' hblk (by decide) (by rw [hk, e])), ⟨hpre.1.mod hmod (Blk.ne_ hpre.1 hblk (by decide)), own_mod hpre.2.1 hmod (fun k hk e => own_ne hpre.2.1 hblk (by decide) (by rw [hk, e])), hpre.2.2⟩, hv⟩
theorem app_cons {don t : List (List UInt8)} {x : List UInt8} {ls : List (List UInt8)} (h : don ++ x :: t = ls) : (don ++ [x]) ++ t = ls := by simpa using h
theorem preH (pb g : Nat) (w0 : World) (ls : List (List UInt8)) (hI : Inked ls) (hpb : pb < g) (hp : w0.cell? ⟨pb, 2, none⟩ = some (.bool false)) : ParseH pb g none 0 (PreInv pb g w0 ls) (PreFin pb g w0 ls) (joinL (ls.map pad)).length where
  line := by
    intro l n w ⟨hb, st, a, h⟩ hne hll
    have hlenall : ∀ l ∈ ls.map pad, l.length ≤ 204 := by
      intro l hl
      obtain ⟨x, hx, rfl⟩ := List.mem_map.1 hl
      have := pad_len x
      have := hI.len x hx
      omega
    have hjl := joinL_len _ hlenall
    rw [List.length_map] at hjl
    have hfew := hI.few
    rcases h with ⟨rfl, rfl, hps, hst⟩ | ⟨don, rest, qb, v, el, ld, c, hdr, hdn, rfl, rfl, hps, hst, hpre, hv⟩
    · refine ⟨⟨_, hps, rfl⟩, by omega, ?_⟩
      obtain ⟨x, t, hxt, hxi⟩ := hI.first
      have hxm : x ∈ ls := by rw [hxt]; exact List.mem_cons_self ..
      have hnp := next_pad x t (by rw [← hxt]; exact hI.chr)
      rw [← hxt] at hnp
      rw [hnp]
      have hne2 : some g ≠ st.v.ownBlock := stack_ne4 hst hps (by decide)
      refine (addLine_first pb g x ((if t = [] then 0 else 10 : Nat) : Int) st a _ (hI.chr x hxm) (hI.len x hxm) hxi (hps.set3 _) (hst.far (p := ⟨g, 3, none⟩) hne2 _)).mono ?_
      rintro e w' ⟨rfl, hm, st2, qb, v, hps', hst', hpre, hv⟩
      refine ⟨rfl, ?_, st2, a, .inr ⟨[x], t, qb, v, 1, 0, _, by rw [hxt]; rfl, by simp, rfl, rfl, hps', hst', hpre, hv⟩⟩
      exact (hb.setCell (p := ⟨g, 3, none⟩) (Nat.le_refl _) _).trans (hm.toBelow (B := g) (by simp; exact Nat.le_of_lt hps.lt) (fun k hk e => by omega))
    · have hrl : don.length + rest.length = ls.length := by rw [← hdr, List.length_append]
      have hrl2 : ∀ l ∈ rest, l ∈ ls := fun l hl => by rw [← hdr]; exact List.mem_append_right _ hl
      have hjr := joinL_len (rest.map pad) (fun l hl => by
        obtain ⟨x, hx, rfl⟩ := List.mem_map.1 hl
        have := pad_len x
        have := hI.len x (hrl2 x hx)
        omega)
      rw [List.length_map] at hjr
      refine ⟨⟨_, hps, rfl⟩, by omega, ?_⟩
      cases rest with
      | nil => exact absurd rfl hne
      | cons x t =>
        have hxm := hrl2 x (List.mem_cons_self ..)
        have hnp := next_pad x t (fun l hl => hI.chr l (hrl2 l hl))
        rw [hnp]
        have hne2 : some g ≠ st.v.ownBlock := stack_ne4 hst hps (by decide)
        have hpre2 : IsPre (w.setCell ⟨g, 3, none⟩ (.int .i64 ((don.length : Int) + 1))) (g + 1) qb v (don.map lineV) := ⟨hpre.1.far (p := ⟨g, 3, none⟩) (Blk.ne_ hpre.1 hps (by decide)) _, own_far hpre.2.1 (p := ⟨g, 3, none⟩) (own_ne hpre.2.1 hps (by decide)) _, hpre.2.2⟩
        have hpx := pad_len x
        have hxl := hI.len x hxm
        have hgl := hps.lt
        have hdl : don.length ≤ 50 := by omega
        obtain ⟨j0, hj1, hj2, hj3, hj4⟩ : ∃ j0, (∀ k, k < j0 → bt ⟨(pad x).toArray⟩ k = 32) ∧ j0 ≤ (ByteArray.mk (pad x).toArray).size ∧ (j0 = 4 ∨ (j0 = (ByteArray.mk (pad x).toArray).size ∧ j0 < 4)) ∧ (ByteArray.mk (pad x).toArray).extract j0 (ByteArray.mk (pad x).toArray).size = ⟨x.toArray⟩ := by
          by_cases hx0 : x = []
          · subst hx0
            exact ⟨0, fun k h => absurd h (by omega), Nat.zero_le _, .inr ⟨rfl, by omega⟩, rfl⟩
          · refine ⟨4, pad_bt x hx0, ?_, .inl rfl, pad_text x hx0⟩
            rw [show (ByteArray.mk (pad x).toArray).size = (pad x).length from List.size_toArray .., pad_ne hx0]
            simp
        refine (addLine_pre (g + 1) g qb j0 { ps0 pb with lineno := (don.length : Int) + 1, lineDepth := ld, stack := st, corner := c } (rootN a) v (don.map lineV) 1 el ((if t = [] then 0 else 10 : Nat) : Int) ⟨(pad x).toArray⟩ _ (Nat.lt_succ_self _) (by simp; exact hgl) (hps.set3 _) (hst.far (p := ⟨g, 3, none⟩) hne2 _) hpre2 (by omega) (bsz (by omega)) (chr_bt (pad_chr (hI.chr x hxm))) hj1 hj2 hj3).mono ?_
        rintro e w' ⟨rfl, v', el', hv', hps', hst', hpre', hm⟩
        rw [hj4] at hpre'
        refine ⟨rfl, ?_, st, a, .inr ⟨don ++ [x], t, qb, v', el', 1, crn c ((if t = [] then 0 else 10 : Nat) : Int), app_cons hdr, by simp, rfl, by simp, ?_, hst', ?_, by rw [hv', hv]; simp⟩⟩
        · exact (hb.setCell (p := ⟨g, 3, none⟩) (Nat.le_refl _) _).trans (hm.toBelow (B := g) (by simp; exact Nat.le_of_lt hps.lt) (fun k hk e => by omega))
        · have e1 : (((don.length + 1 : Nat)) : Int) = (don.length : Int) + 1 := by omega
          rw [e1]; exact hps'
        · rw [List.map_append]; exact hpre'
  drew := by
    intro l n w k ⟨hb, st, a, h⟩
    refine ⟨below_drewN hb k, st, a, ?_⟩
    rcases h with ⟨h1, h2, hps, hst⟩ | ⟨don, rest, qb, v, el, ld, c, hdr, hdn, hl, hn, hps, hst, hpre, hv⟩
    · exact .inl ⟨h1, h2, hps.drewN k, hst.drewN k⟩
    · exact .inr ⟨don, rest, qb, v, el, ld, c, hdr, hdn, hl, hn, hps.drewN k, hst.drewN k, ⟨Blk.drewN hpre.1 k, World.ownsRow.drewN hpre.2.1 k, hpre.2.2⟩, hv⟩
  trim := by
    intro n w ⟨hb, st, a, h⟩
    obtain ⟨tl, la, hla, hlai⟩ := hI.last
    rcases h with ⟨h1, _, _, _⟩ | ⟨don, rest, qb, v, el, ld, c, hdr, hdn, hl, hn, hps, hst, hpre, hv⟩
    · exact absurd h1.symm (by rw [hla]; exact joinL_ink tl la hlai)
    · have hr : rest = [] := by
        rcases List.eq_nil_or_concat rest with h | ⟨r1, r2, h⟩
        · exact h
        · exfalso
          rw [List.concat_eq_append] at h
          subst h
          have : r2 = la := by
            rw [← List.append_assoc, hla] at hdr
            exact (List.append_inj' hdr rfl).2 |> List.cons.inj |>.1
          subst this
          exact joinL_ink r1 r2 hlai hl.symm
      subst hr
      rw [List.append_nil] at hdr
      subst hdr
      have hgl := hps.lt
      refine (trimPre_any (g + 1) g qb _ a v _ 1 el w (Nat.lt_succ_self _) hgl hps hst hpre.1 hpre.2.1).mono ?_
      rintro e w' ⟨rfl, d', st', v1, cb, hd, hps', hblk, hv1, hin, hcb, hrow, hm⟩
      refine ⟨rfl, rfl, hb.trans (hm.toBelow (B := g) (Nat.le_of_lt hgl) (fun k hk e => by omega)), d', st', v1, cb, n, ld, c, by omega, hps', hblk, hv1, hin, 1, el, v, hcb, hrow⟩
  at_ := by
    intro k w ⟨hk, hb, d, st, v1, cb, n, ld, c, hd, hps, hblk, _⟩
    refine ⟨by omega, _, 0, hps, rfl, ?_⟩
    rw [hb.cell (by exact hpb)]; exact hp
  text := by
    intro k w _ hk
    omega
theorem isCode_kept {w w' : World} {cb base b : Nat} {ls : List (List UInt8)} (h : IsCode w cb base ls) (hk : Kept b w w') (hb : w.heap.size ≤ b) : IsCode w' cb base ls := by
  obtain ⟨sl, el, v, hblk, hrow⟩ := h
  refine ⟨sl, el, v, hblk.kept hk (by have := hblk.lt; omega) (by decide), own_kept hrow hk ?_ (by decide)⟩
  intro e
  have := own_lt hrow e
  omega
theorem code_prints (w : World) (b cb base : Nat) (t : List (List UInt8)) (la : List UInt8) (hb : w.heap.size ≤ b) (hcode : IsCode w cb base (t ++ [la])) (hn : t.length ≤ 100) (hlen : ∀ l ∈ t ++ [la], l.length ≤ 300) (hink : ∃ c ∈ la, isST c = false) : Prints w b [] (cbV cb) (codeOut (t ++ [la])) := by
  refine ⟨_, _, 320, .pointer (some ⟨cb, 0, none⟩), rfl, fun W => by kernel_rfl, Go.Proofs.enters_of Tryz.func320 (by kernel_rfl) rfl, fun B W hk hbf hB hl => ?_⟩
  exact codeHTML_any B b cb base t la W (isCode_kept hcode hk hb) hbf hB hn hlen hink
theorem codeOut_len (ls : List (List UInt8)) (h : ∀ l ∈ ls, l.length ≤ 300) : (codeOut ls).length ≤ 25 + 2000 * ls.length := by
  have h1 := code_len ls ls.length h
  rw [List.take_length] at h1
  unfold codeOut codeHead codeTail
  simp only [List.length_append, List.length_cons, List.length_nil]
  omega
theorem HTML_indent (ls : List (List UInt8)) (w : World) (hI : Inked ls) :
    Calls Tryz.prog 7 #[plainO.v, .string ⟨(joinL (ls.map pad)).toArray⟩] w fun e w' => e = .returned (.string ⟨(codeOut ls).toArray⟩) ∧ Below w.heap.size w w' := by
  refine HTML_gen plainO _ w (codeOut ls) (fun pb w1 hblkp => ?_)
  have hp : w1.cell? ⟨pb, 2, none⟩ = some (.bool false) := by rw [hblkp.cell]; rfl
  have hpb : pb < w1.heap.size := World.block_lt_of_cell? w1 _ hp
  have hlenall : ∀ l ∈ ls.map pad, l.length ≤ 204 := by
    intro l hl
    obtain ⟨x, hx, rfl⟩ := List.mem_map.1 hl
    have := pad_len x
    have := hI.len x hx
    omega
  have hjl := joinL_len _ hlenall
  rw [List.length_map] at hjl
  have hfew := hI.few
  have h0 : (0 : UInt8) ∉ joinL (ls.map pad) := joinL_not _ 0 (by decide) (fun a ha => by
    obtain ⟨x, hx, rfl⟩ := List.mem_map.1 ha
    exact chr_not (pad_chr (hI.chr x hx)) 0 (by decide))
  have hpar : Calls Tryz.prog 21 #[.pointer (some ⟨pb, 0, none⟩), .string ⟨(joinL (ls.map pad)).toArray⟩] w1 fun e w' => ∃ d c, e = .returned (.tuple #[.pointer (some ⟨d, 0, none⟩), .bool c]) ∧ DocPrints w' d (codeOut ls) ∧ Below w1.heap.size w1 w' := by
    refine (parse_gen pb _ w1 none 0 (PreInv pb w1.heap.size w1 ls) (PreFin pb w1.heap.size w1 ls) (by omega) (idxB_not _ 0 h0) (preH pb w1.heap.size w1 ls hI hpb hp) ?_).mono ?_
    · intro w' bn hps hb
      refine (addBlock_top (w1.heap.size + 1) w1.heap.size (ps0 pb) [] w' 70 (.pointer (some ⟨bn, 0, none⟩)) hps.lt hps ⟨rfl, World.ownsRow_nil _ _ _ _⟩ rfl (by simp)).mono ?_
      rintro e w2 ⟨rfl, v, hps1, hst, _, hm⟩
      refine ⟨rfl, ?_, v, some ⟨bn, 0, none⟩, .inl ⟨rfl, rfl, hps1, hst⟩⟩
      exact hb.trans (hm.toBelow (B := w1.heap.size) hb.size (fun k hk e => by
        rcases e with e | e
        · omega
        · simp [ps0, Sl.nil, Value.ownBlock] at e))
    · rintro e w' ⟨r, k, rfl, hps, w0, ⟨_, hb, d, st, v1, cb, n, ld, c, hd, hps0, hblk, hv1, hin, hcode⟩, rfl⟩
      have h1 := hps.c1
      have h2 := hps0.c1
      rw [show (w0.drewN k).cell? ⟨w1.heap.size, 1, none⟩ = w0.cell? ⟨w1.heap.size, 1, none⟩ from rfl, h2] at h1
      simp only [Option.some.injEq, Value.pointer.injEq] at h1
      rw [← h1]
      obtain ⟨t, la, rfl, c1, hc1, hc32⟩ := hI.last
      have hcst : isST c1 = false := by
        have := hI.chr la (by simp) c1 hc1
        exact isST_not (fun h => hc32 (UInt8.toNat_inj.1 (by simp; omega))) (fun h => by omega)
      have hl300 : ∀ l ∈ t ++ [la], l.length ≤ 300 := fun l hl => Nat.le_trans (hI.len l hl) (by omega)
      have htl : t.length ≤ 100 := by
        have := hI.few
        rw [List.length_append] at this
        omega
      have hol := codeOut_len (t ++ [la]) hl300
      refine ⟨d, _, rfl, ⟨0, 0, v1, none, w1.heap.size + 1, [cbV cb], [codeOut (t ++ [la])], hblk, ?_, by omega, by simp, ?_, rfl, ?_⟩, below_drewN hb k⟩
      · rw [hv1]; exact World.ownsRow.drewN hin k
      · have := hI.few
        omega
      · intro b i y o hbz hy ho
        cases i with
        | zero =>
          simp at hy ho
          subst hy ho
          exact code_prints _ b cb (w1.heap.size + 1) t la hbz hcode htl hl300 ⟨c1, hc1, hcst⟩
        | succ i => simp at hy
  go_enter Tryz.func18, Tryz.ntmps18
  go_wp2_with (go_at_call 21; refine hpar.mono ?_; rintro e w1 ⟨d, c, rfl, hd, hb⟩)
  go_ret
  exact ⟨d, rfl, hd, hb⟩
/-- The escaped lines, put together. -/
theorem esc_join (ls : List (List UInt8)) (h : ls ≠ []) : ls.flatMap (fun l => esc l ++ [10]) = esc (joinL ls) ++ [10] := by
  induction ls with
  | nil => exact absurd rfl h
  | cons a t ih =>
    by_cases ht : t = []
    · subst ht; simp [joinL]
    · rw [List.flatMap_cons, ih ht, joinL_cons _ _ ht]
      simp [esc, esc1]
end Go.Proofs.YtohokfbjmfjjaaaGreatDoor
