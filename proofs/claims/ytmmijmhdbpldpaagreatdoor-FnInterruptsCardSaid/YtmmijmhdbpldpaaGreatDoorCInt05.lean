/- Texts of this proof, joined: Inline texts: what they are, and how the text between them is laid out, No definition of a link stands ahead; a text is noted down, The library's contracts on strings.Join, laid at this program. -/
import Derived.Test.YtmmijmhdbpldpaaGreatDoorCInt03
import Derived.Test.YtmmijmhdbpldpaaGreatDoorCInt04
import Derived.Deep.RegionLaw
import Derived.Deep.AppendLies
import Derived.Shelf.Strings.OnBuilder
import Derived.Ground.NamesProg
import Derived.Test.YtmmijmhdbpldpaaGreatDoorProg
import Derived.Test.YtmmijmhdbpldpaaGreatDoorCInt01
/- Inline texts: what they are, and how the text between them is laid out. -/





namespace Go.Proofs.YtmmijmhdbpldpaaGreatDoor
open Go.RowKit
/-- An inline text: the type of its pointer, that of its block, and what this holds. -/
structure Kind where
  T : TypeId
  tb : TypeId
  cs : List Value
@[reducible] def plainK (l : List UInt8) : Kind := ⟨156, 137, [lineV l]⟩
/-- No type of a block that the machinery itself writes. -/
structure Kind.Ok (k : Kind) : Prop where
  ps : k.tb ≠ 95
  row : k.tb ≠ 132
  text : k.tb ≠ 110
  open_ : ∀ p w, (Instr.typeAssert (.iface k.T (.pointer p)) 132 134 true).run Tryz.prog w = .ok (.tuple #[.pointer none, .bool false]) w
  emph_ : ∀ p w, (Instr.typeAssert (.iface k.T (.pointer p)) 132 190 true).run Tryz.prog w = .ok (.tuple #[.pointer none, .bool false]) w
/-- What the list itself asks of its parts. -/
structure Kind.Fit (k : Kind) : Prop where
  ps : k.tb ≠ 95
  row : k.tb ≠ 132
theorem Kind.Ok.fit {k : Kind} (h : k.Ok) : k.Fit := ⟨h.ps, h.row⟩
theorem plainK_ok (l : List UInt8) : (plainK l).Ok := ⟨(by decide : (137 : Nat) ≠ 95), (by decide : (137 : Nat) ≠ 132), (by decide : (137 : Nat) ≠ 110), fun _ _ => by kernel_rfl, fun _ _ => by kernel_rfl⟩
theorem infoInl : (Tryz.prog.info? 132).map (fun i => (i.zero, i.size, i.bytes)) = some (some .nilIface, 1, 16) := by kernel_rfl
def IsItem (w : World) (B : Nat) (v : Value) (k : Kind) : Prop := ∃ b, v = .iface k.T (.pointer (some ⟨b, 0, none⟩)) ∧ Blk w b k.tb k.cs.toArray ∧ B ≤ b
/-- A list of inline texts. -/
def IsItems (w : World) (B : Nat) (vs : List Value) (ks : List Kind) : Prop := vs.length = ks.length ∧ ∀ (j : Nat) v k, vs[j]? = some v → ks[j]? = some k → IsItem w B v k
theorem IsItem.mod {w w' : World} {B : Nat} {v : Value} {k : Kind} {S : Nat → Prop} (h : IsItem w B v k) (hm : Mod S w w') (hn : ∀ b cs, Blk w b k.tb cs → B ≤ b → ¬ S b) : IsItem w' B v k := by
  obtain ⟨b, h1, h2, h3⟩ := h
  exact ⟨b, h1, h2.mod hm (hn b _ h2 h3), h3⟩
theorem IsItems.mod {w w' : World} {B : Nat} {vs : List Value} {ks : List Kind} {S : Nat → Prop} (h : IsItems w B vs ks) (hm : Mod S w w') (hn : ∀ k, k ∈ ks → ∀ b cs, Blk w b k.tb cs → B ≤ b → ¬ S b) : IsItems w' B vs ks :=
  ⟨h.1, fun j v k hv hk => (h.2 j v k hv hk).mod hm (hn k (List.mem_of_getElem? hk))⟩
theorem IsItems.nil (w : World) (B : Nat) : IsItems w B [] [] := ⟨rfl, fun j v k hv => by simp at hv⟩
theorem IsItems.snoc {w : World} {B : Nat} {vs : List Value} {ks : List Kind} {v : Value} {k : Kind} (h : IsItems w B vs ks) (hv : IsItem w B v k) : IsItems w B (vs ++ [v]) (ks ++ [k]) := by
  refine ⟨by simp [h.1], fun j u q hu hq => ?_⟩
  have hl := h.1
  rcases Nat.lt_or_ge j vs.length with hj | hj
  · rw [List.getElem?_append_left hj] at hu
    rw [List.getElem?_append_left (by omega)] at hq
    exact h.2 j u q hu hq
  · rw [List.getElem?_append_right hj] at hu
    rw [List.getElem?_append_right (by omega)] at hq
    rcases Nat.eq_or_lt_of_le hj with h0 | h0
    · rw [show j - vs.length = 0 from by omega] at hu
      rw [show j - ks.length = 0 from by omega] at hq
      simp only [List.getElem?_cons_zero, Option.some.injEq] at hu hq
      subst hu hq
      exact hv
    · rw [List.getElem?_eq_none (by simp; omega)] at hu
      cases hu
/-- Blocks of other types than those that the list's machinery writes stay. -/
def KeepT (w w' : World) : Prop := ∀ k ty cs, Blk w k ty cs → ty ≠ 95 → ty ≠ 132 → Blk w' k ty cs
theorem KeepT.refl (w : World) : KeepT w w := fun _ _ _ h _ _ => h
theorem KeepT.trans {w w1 w2 : World} (h : KeepT w w1) (h2 : KeepT w1 w2) : KeepT w w2 := fun k ty cs hb a b => h2 k ty cs (h k ty cs hb a b) a b
theorem KeepT.of {w w' : World} {S : Nat → Prop} (hm : Mod S w w') (hn : ∀ k ty cs, Blk w k ty cs → ty ≠ 95 → ty ≠ 132 → ¬ S k) : KeepT w w' := fun k ty cs hb a b => hb.mod hm (hn k ty cs hb a b)
theorem KeepT.item {w w' : World} {B : Nat} {v : Value} {k : Kind} (h : KeepT w w') (hk : k.Fit) (hi : IsItem w B v k) : IsItem w' B v k := by
  obtain ⟨b, h1, h2, h3⟩ := hi
  exact ⟨b, h1, h b _ _ h2 hk.ps hk.row, h3⟩
theorem KeepT.own {w w' : World} {base : Nat} {e : TypeId} {size n : Nat} {v : Value} {xs : List Value} (hk : KeepT w w') (h : w.ownsRow base e size v n xs) (h1 : e ≠ 95) (h2 : e ≠ 132) : w'.ownsRow base e size v n xs := by
  refine ⟨h.1, ?_⟩
  rcases h.2 with h0 | ⟨g', cap, cur, rfl, hb, hh, h3⟩
  · exact .inl h0
  · exact .inr ⟨g', cap, cur, rfl, hb, hk g' e cur hh h1 h2, h3⟩
/-- While a text is read: what has been laid out. -/
def InS (B g : Nat) (r : PSr) (em : Nat) (ks : List Kind) (w : World) : Prop :=
  ∃ l vs, IsPS w g { r with emitted := em, list := l } ∧ w.ownsRow B 132 1 l.v l.n vs ∧ l.n = ks.length ∧ IsItems w B vs ks
/-- The text between. -/
def pieceK (s : ByteArray) (em i : Nat) : List Kind := if em < i then [plainK ((s.data.toList.take i).drop em)] else []
theorem pieceK_ok (s : ByteArray) (em i : Nat) : ∀ k ∈ pieceK s em i, k.Ok := by
  intro k hk
  unfold pieceK at hk
  split at hk
  · simp only [List.mem_cons, List.not_mem_nil, or_false] at hk
    subst hk; exact plainK_ok _
  · cases hk
theorem extract_mk (s : ByteArray) (a b : Nat) : s.extract a b = ⟨((s.data.toList.take b).drop a).toArray⟩ := by
  apply ByteArray.ext
  apply Array.toList_inj.1
  rw [Lib.extract_data]
  simp [List.drop_take]
theorem news2 (w : World) (o : Obj) (u : Value) (t : TypeId) : ∀ j x, ([u] : List Value)[j]? = some x → (((w.drew).alloc o).alloc (.cells #[u] t)).cell? ((⟨w.heap.size + 1, 0, none⟩ : Addr).add j) = some x :=
  World.news_of_block (cs := #[u]) (t := t) (fr := (0, 0)) (by have := heap_alloc_new (w.drew.alloc o) (.cells #[u] t); rwa [show (w.drew.alloc o).heap.size = w.heap.size + 1 from by simp] at this)
set_option maxRecDepth 20000 in
set_option maxHeartbeats 4000000 in
theorem emit_anyF (B g : Nat) (r : PSr) (em i : Nat) (ks : List Kind) (w : World) (hgB : g < B) (hB : B ≤ w.heap.size) (hin : InS B g r em ks w) (hok : ∀ k ∈ ks, k.Fit) (hei : em ≤ i) (his : i ≤ r.s.size) (hkl : ks.length ≤ 1000000) :
    Calls Tryz.prog 77 #[.pointer (some ⟨g, 0, none⟩), .int .i64 i] w fun e w' => e = .returned (.tuple #[]) ∧ InS B g r i (ks ++ pieceK r.s em i) w' ∧ Mod (fun k => k = g ∨ B ≤ k) w w' ∧ KeepT w w' := by
  obtain ⟨is0, his0, hsz0, hsz1, hsz2⟩ := info_parts infoInl
  obtain ⟨l, vs, hps, hrow, hln, hits⟩ := hin
  have c7 := hps.c7
  have c8 := hps.c8
  have c9 := hps.c9
  have f1 := hps.free
  have hg := hps.lt
  dsimp only at c7 c8 c9
  by_cases hlt : em < i
  · have hkn : l.n ≤ 1000000 := by omega
    have HLN := hid hln
    clear hln
    have HPS := hid hps
    have HROW := hid hrow
    have HITS := hid hits
    have HOK := hid hok
    clear hps hrow hits hok
    go_enter Tryz.func77, Tryz.ntmps77
    go_wp2_with fail
    go_region_law (first
      | (refine step_append_lies _ rfl (.tmp 14) (.tmp 28) 88 (by rfl) B 132 is0 _ 1 16 Tryz.underlying88 his0 hsz0 hsz1 hsz2 rfl (by decide) (.slice l.a l.n l.c) l.n vs (by rfl) (by first | exact World.ownsRow.alloc (World.ownsRow.alloc (World.ownsRow.drewN HROW.out 1) _) _ | exact World.ownsRow.drewN (World.ownsRow.alloc (World.ownsRow.alloc HROW.out _) _) 1) ⟨w.heap.size + 1, 0, none⟩ 1 1 [.iface 156 (.pointer (some ⟨w.heap.size, 0, none⟩))] (by rfl) rfl (news2 w _ _ _) (by intro v hv; simp at hv; subst hv; rfl) (by omega) (by unfold maxLen; omega) (by omega) (by simp; omega) (w.heap.size + 2) (by simp) ?_
         intro g2 cap2 w4 hown4 hgr4 hat4 hlt4
         have hp4 : IsPS w4 g { r with emitted := em, list := l } := Blk.grown (Blk.alloc (Blk.alloc (w := World.drew w) HPS.out _) _) hgr4 (own_ne HROW.out HPS.out (by decide))
         have q9 := hp4.c9
         have fq := hp4.free))
    all_goals
      clear c7 c8 c9 f1 q9 fq
      have hm4 : Mod (fun k => some k = l.v.ownBlock) w w4 := Mod.grown (((Mod.drewN (Mod.refl _ w) 1).alloc _).alloc _) hgr4 (fun k hk => .inl hk.symm)
      have hnew : IsItem w4 B (.iface 156 (.pointer (some ⟨w.heap.size, 0, none⟩))) (plainK ((r.s.data.toList.take i).drop em)) := by
        refine ⟨w.heap.size, rfl, Blk.grown (Blk.alloc (w := World.alloc (World.drew w) (.cells #[.string (r.s.extract em i)] 137)) ?_ _) hgr4 (fun e => by have := ownLt HROW.out e; omega), hB⟩
        have := Blk.new (World.drew w) 137 #[.string (r.s.extract em i)]
        rw [extract_mk] at this ⊢
        exact this
      have hits4 := (HITS.out.mod hm4 (fun k hk b cs hb _ e => own_ne HROW.out hb (HOK.out k hk).row.symm e)).snoc hnew
      have hps5 := (hp4.set9 (some ⟨g2, 0, none⟩) (l.n + 1) cap2)
      have hown5 := own_far hown4 (p := ⟨g, 9, none⟩) (own_ne hown4 hp4 (by decide)) (.slice (some ⟨g2, 0, none⟩) (l.n + 1) cap2)
      have hm5 : Mod (fun k => k = g) w4 (w4.setCell ⟨g, 9, none⟩ (.slice (some ⟨g2, 0, none⟩) (l.n + 1) cap2)) := (Mod.refl (fun k => k = g) w4).setCell (p := ⟨g, 9, none⟩) (.inl rfl) _
      have hits5 := hits4.mod hm5 (fun k hk b cs hb _ e => by
        subst e
        have hk' : k.Fit := by
          rcases List.mem_append.1 hk with h | h
          · exact HOK.out k h
          · simp only [List.mem_cons, List.not_mem_nil, or_false] at h; subst h; exact (plainK_ok _).fit
        exact Blk.ne_ hb hp4 hk'.ps rfl)
      have HP4 := hid hp4
      have HM4 := hid hm4
      have HM5 := hid hm5
      have HI5 := hid hits5
      have HP5 := hid hps5
      have HO5 := hid hown5
      clear hm4 hm5 hits4 hits5 hps5 hown5 hown4 hgr4 hat4 hlt4 hnew hp4
      generalize World.setCell w4 ⟨g, 9, none⟩ _ = w5 at HM5 HI5 HP5 HO5 ⊢
      have c8 := HP5.out.c8
      have fq := HP5.out.free
      go_wp2_with fail
      go_end0
      refine ⟨rfl, ⟨⟨some ⟨g2, 0, none⟩, l.n + 1, cap2⟩, vs ++ [.iface 156 (.pointer (some ⟨w.heap.size, 0, none⟩))], HP5.out.set8 i, own_far HO5.out (p := ⟨g, 8, none⟩) (own_ne HO5.out HP5.out (by decide)) _, by rw [pieceK, if_pos hlt, List.length_append, HLN.out]; rfl, ?_⟩, ?_⟩
      · rw [pieceK, if_pos hlt]
        exact HI5.out.mod (S := fun k => k = g) ((Mod.refl (fun k => k = g) w5).setCell (p := ⟨g, 8, none⟩) (.inl rfl) _) (fun k hk b cs hb _ e => by
          subst e
          have hk' : k.Fit := by
            rcases List.mem_append.1 hk with h | h
            · exact HOK.out k h
            · simp only [List.mem_cons, List.not_mem_nil, or_false] at h; subst h; exact (plainK_ok _).fit
          exact Blk.ne_ hb HP5.out hk'.ps rfl)
      · have hfin : Mod (fun k => k = g ∨ B ≤ k) w w5 := (HM4.out.mono (S' := fun k => k = g ∨ B ≤ k) (fun k hk e => .inr (ownBase HROW.out e))).trans HM5.out (fun k _ e => .inl e)
        refine ⟨hfin.setCell (p := ⟨g, 8, none⟩) (.inl (.inl rfl)) _, ?_⟩
        refine ((KeepT.of HM4.out (fun k ty cs hb _ h2 e => own_ne HROW.out hb h2.symm e)).trans (KeepT.of HM5.out (fun k ty cs hb h1 _ e => ?_))).trans (KeepT.of ((Mod.refl (fun k => k = g) w5).setCell (p := ⟨g, 8, none⟩) (.inl rfl) _) (fun k ty cs hb h1 _ e => ?_))
        · subst e; exact Blk.ne_ hb HP4.out h1 rfl
        · subst e; exact Blk.ne_ hb HP5.out h1 rfl
  · have he : em = i := by omega
    subst he
    go_enter Tryz.func77, Tryz.ntmps77
    go_wp2_with fail
    go_end0
    refine ⟨rfl, ⟨l, vs, hps, hrow, ?_, ?_⟩, Mod.refl _ _, KeepT.refl _⟩
    · rw [pieceK, if_neg (by omega), List.append_nil]; exact hln
    · rw [pieceK, if_neg (by omega), List.append_nil]; exact hits
/-- Nothing stands between: nothing is laid out. -/
theorem emit_none (g : Nat) (r : PSr) (i : Nat) (w : World) (hps : IsPS w g r) (he : r.emitted = i) :
    Calls Tryz.prog 77 #[.pointer (some ⟨g, 0, none⟩), .int .i64 i] w fun e w' => e = .returned (.tuple #[]) ∧ w = w' := by
  have c8 := hps.c8
  rw [he] at c8
  go_enter Tryz.func77, Tryz.ntmps77
  go_wp2_with fail
  go_end0
  exact ⟨rfl, rfl⟩
theorem emit_any (B g : Nat) (r : PSr) (em i : Nat) (ks : List Kind) (w : World) (hgB : g < B) (hB : B ≤ w.heap.size) (hin : InS B g r em ks w) (hok : ∀ k ∈ ks, k.Ok) (hei : em ≤ i) (his : i ≤ r.s.size) (hkl : ks.length ≤ 1000000) :
    Calls Tryz.prog 77 #[.pointer (some ⟨g, 0, none⟩), .int .i64 i] w fun e w' => e = .returned (.tuple #[]) ∧ InS B g r i (ks ++ pieceK r.s em i) w' ∧ Mod (fun k => k = g ∨ B ≤ k) w w' ∧ ∀ v k, k.Ok → IsItem w B v k → IsItem w' B v k :=
  (emit_anyF B g r em i ks w hgB hB hin (fun k hk => (hok k hk).fit) hei his hkl).mono fun _ _ h => ⟨h.1, h.2.1, h.2.2.1, fun _ _ hk hi => h.2.2.2.item hk.fit hi⟩
end Go.Proofs.YtmmijmhdbpldpaaGreatDoor
/- No definition of a link stands ahead; a text is noted down. -/


namespace Go.Proofs.YtmmijmhdbpldpaaGreatDoor
open Go.RowKit
set_option maxHeartbeats 400000 in
theorem skipSpace_no (s : ByteArray) (i : Nat) (w : World) (hi : i < s.size) (_ : s.size ≤ 1000000) (h : bt s i ≠ 32 ∧ bt s i ≠ 9 ∧ bt s i ≠ 10) :
    Calls Tryz.prog 114 #[.string s, .int .i64 i] w fun e w' => e = .returned (.int .i64 i) ∧ w = w' := by
  have hb := get_bt s
  obtain ⟨h1, h2, h3⟩ := h
  have b1 : (bt s i == 32) = false := by simpa using h1
  have b2 : (bt s i == 9) = false := by simpa using h2
  have b3 : (bt s i == 10) = false := by simpa using h3
  go_enter Tryz.func114, Tryz.ntmps114
  go_wp2
  go_rounds 1
  go_wp2
  go_ret
  exact ⟨rfl, rfl⟩
set_option maxHeartbeats 400000 in
theorem linkLabel_no (p : Value) (s : ByteArray) (i : Nat) (w : World) (_ : s.size ≤ 1000000) (h : bt s i ≠ 91) :
    Calls Tryz.prog 117 #[p, .string s, .int .i64 i] w fun e w' => e = .returned (.tuple #[.string ⟨#[]⟩, .int .i64 0, .bool false]) ∧ w = w' := by
  have hb := get_bt s
  have b1 : (bt s i == 91) = false := by simpa using h
  have b2 : (bt s i != 91) = true := by simp [bne, b1]
  clear h
  by_cases hlt : i < s.size
  all_goals
    go_enter Tryz.func117, Tryz.ntmps117
    go_wp2
  all_goals refine bodyPost_ret (by simp [results, Tryz.results117, go_sem]; try rfl) rfl ?_
  all_goals exact ⟨rfl, rfl⟩
theorem ta_bs (g : Nat) (w : World) : (Instr.typeAssert (.iface 116 (.pointer (some ⟨g, 0, none⟩))) 343 116 false).run Tryz.prog w = .ok (.pointer (some ⟨g, 0, none⟩)) w := by kernel_rfl
set_option maxRecDepth 20000 in
set_option maxHeartbeats 400000 in
theorem linkRef_no (g : Nat) (s : ByteArray) (w : World) (h0 : 0 < s.size) (hs : s.size ≤ 1000000) (h : bt s 0 ≠ 32 ∧ bt s 0 ≠ 9 ∧ bt s 0 ≠ 10) (h91 : bt s 0 ≠ 91) :
    Calls Tryz.prog 283 #[.iface 116 (.pointer (some ⟨g, 0, none⟩)), .string s] w fun e w' => e = .returned (.tuple #[.int .i64 0, .bool false]) ∧ w = w' := by
  have ta := ta_bs g
  go_enter Tryz.func283, Tryz.ntmps283
  go_wp2_with fail
  refine (skipSpace_no s 0 _ h0 hs h).mono ?_
  rintro e w1 ⟨rfl, rfl⟩
  go_wp2_with fail
  refine (linkLabel_no _ s 0 _ hs h91).mono ?_
  rintro e w1 ⟨rfl, rfl⟩
  go_wp2_with fail
  go_ret2
  exact ⟨rfl, rfl⟩
/-- No definition of a link stands ahead of the text. -/
def RefNo (T : List UInt8) : Prop := ∀ (g : Nat) (w : World), Calls Tryz.prog 283 #[.iface 116 (.pointer (some ⟨g, 0, none⟩)), .string ⟨T.toArray⟩] w fun e w' => e = .returned (.tuple #[.int .i64 0, .bool false]) ∧ w = w'
theorem refNo_plain (T : List UInt8) (h0 : 0 < T.length) (hl : T.length ≤ 1000000) (hc : ∀ c, T[0]? = some c → c ≠ 32 ∧ c ≠ 9 ∧ c ≠ 10 ∧ c ≠ 91) : RefNo T := by
  intro g w
  have hz : (ByteArray.mk T.toArray).size = T.length := List.size_toArray ..
  cases T with
  | nil => simp at h0
  | cons c t =>
    obtain ⟨h1, h2, h3, h4⟩ := hc c rfl
    have hb : bt ⟨(c :: t).toArray⟩ 0 = (c.toNat : Int) := by rw [bt_list]; rfl
    refine linkRef_no g _ w (by rw [hz]; exact h0) (by rw [hz]; exact hl) ?_ ?_
    · rw [hb]
      exact ⟨fun e => h1 (UInt8.toNat_inj.1 (by show c.toNat = 32; omega)), fun e => h2 (UInt8.toNat_inj.1 (by show c.toNat = 9; omega)), fun e => h3 (UInt8.toNat_inj.1 (by show c.toNat = 10; omega))⟩
    · rw [hb]
      exact fun e => h4 (UInt8.toNat_inj.1 (by show c.toNat = 91; omega))
theorem infoTxt : (Tryz.prog.info? 105).map (fun i => (i.zero, i.size, i.bytes)) = some (some (.pointer none), 1, 8) := by kernel_rfl
theorem news3 (w : World) (o1 o2 : Obj) (u : Value) (t : TypeId) : ∀ j x, ([u] : List Value)[j]? = some x → (((w.alloc o1).alloc o2).alloc (.cells #[u] t)).cell? ((⟨w.heap.size + 1 + 1, 0, none⟩ : Addr).add j) = some x :=
  World.news_of_block (cs := #[u]) (t := t) (fr := (0, 0)) (by have := heap_alloc_new ((w.alloc o1).alloc o2) (.cells #[u] t); rwa [show ((w.alloc o1).alloc o2).heap.size = w.heap.size + 1 + 1 from by simp] at this)
/-- What newText leaves. -/
def NewTextP (B g : Nat) (r : PSr) (sl el : Int) (s : ByteArray) (ts : List Value) (w : World) (e : Ending) (w' : World) : Prop :=
  ∃ tb l, e = .returned (.pointer (some ⟨tb, 0, none⟩)) ∧ w.heap.size ≤ tb ∧ Blk w' tb 110 #[.int .i64 sl, .int .i64 el, .slice none 0 0, .string s] ∧ IsPS w' g { r with texts := l } ∧
    w'.ownsRow B 105 1 l.v l.n (ts ++ [.pointer (some ⟨tb, 0, none⟩)]) ∧ l.n = r.texts.n + 1 ∧ Mod (fun k => k = g ∨ some k = r.texts.v.ownBlock) w w'
set_option maxRecDepth 20000 in
set_option maxHeartbeats 4000000 in
theorem newText_any (B g : Nat) (r : PSr) (sl el : Int) (s : ByteArray) (ts : List Value) (w : World) (hB : B ≤ w.heap.size) (hps : IsPS w g r) (hrow : w.ownsRow B 105 1 r.texts.v r.texts.n ts) (hn : r.texts.n ≤ 1000000) :
    Calls Tryz.prog 132 #[.pointer (some ⟨g, 0, none⟩), .agg #[.int .i64 sl, .int .i64 el], .string s] w (NewTextP B g r sl el s ts w) := by
  obtain ⟨is0, his0, hsz0, hsz1, hsz2⟩ := info_parts infoTxt
  have c11 := hps.c11
  have f1 := hps.free
  have hg := hps.lt
  have HPS := hid hps
  have HROW := hid hrow
  clear hps hrow
  go_enter Tryz.func132, Tryz.ntmps132
  go_wp2_with (at_builtin; refine wpList_append_lies _ rfl (.tmp 16) (.tmp 18) 90 (by rfl) B 105 is0 _ 1 8 Tryz.underlying90 his0 hsz0 hsz1 hsz2 rfl (by decide) (.slice r.texts.a r.texts.n r.texts.c) r.texts.n ts (by rfl) (((HROW.out.alloc _).alloc _).alloc _) ⟨w.heap.size + 1 + 1, 0, none⟩ 1 1 [.pointer (some ⟨w.heap.size + 1, 0, none⟩)] (by rfl) rfl (news3 w _ _ _ _) (by intro v hv; simp at hv; subst hv; rfl) (by omega) (by unfold maxLen; omega) (by omega) (by simp; omega) (w.heap.size + 3) (by simp) ?_
               intro g2 cap2 w4 hown4 hgr4 hat4 hlt4
               have hp4 : IsPS w4 g r := Blk.grown (Blk.alloc (Blk.alloc (Blk.alloc HPS.out _) _) _) hgr4 (own_ne HROW.out HPS.out (by decide))
               have q1 := hp4.c11
               have fq := hp4.free)
  have hm4 : Mod (fun k => some k = r.texts.v.ownBlock) w w4 := Mod.grown ((((Mod.refl _ w).alloc _).alloc _).alloc _) hgr4 (fun k hk => .inl hk.symm)
  have hnew : Blk w4 (w.heap.size + 1) 110 #[.int .i64 sl, .int .i64 el, .slice none 0 0, .string s] :=
    Blk.grown (Blk.alloc (w := (w.alloc (Obj.cells #[Value.int IntKind.i64 sl, Value.int IntKind.i64 el] 108)).alloc (Obj.cells #[Value.int IntKind.i64 sl, Value.int IntKind.i64 el, Value.slice none 0 0, Value.string s] 110)) (Blk.new' (by simp)) _) hgr4 (fun e => by have := ownLt HROW.out e; omega)
  have hne : w.heap.size + 1 ≠ g := by omega
  go_ret
  refine ⟨w.heap.size + 1, ⟨some ⟨g2, 0, none⟩, r.texts.n + 1, cap2⟩, rfl, by omega, hnew.far (p := ⟨g, 11, none⟩) hne _, hp4.set11 _ _ _, own_far hown4 (p := ⟨g, 11, none⟩) (own_ne hown4 hp4 (by decide)) _, rfl, ?_⟩
  exact (hm4.mono (S' := fun k => k = g ∨ some k = r.texts.v.ownBlock) (fun k _ h => .inr h)).setCell (p := ⟨g, 11, none⟩) (.inl (.inl rfl)) _
end Go.Proofs.YtmmijmhdbpldpaaGreatDoor
/- The library's contracts on strings.Join, laid at this program. -/



namespace Go.Proofs
open Go.Shelf
def Tryz.layJN_ren : Go.Shelf.Ren := ⟨fun | 156 => 169 | 165 => 32 | 166 => 33 | 169 => 35 | 240 => 47 | 241 => 48 | 276 => 58 | 277 => 59 | n => n, fun | 31 => 33 | 9 => 9 | 3 => 3 | 4 => 4 | 0 => 0 | 20 => 20 | 72 => 58 | 76 => 62 | 70 => 55 | 37 => 56 | 75 => 61 | 127 => 85 | 164 => 113 | 5 => 5 | 80 => 65 | n => n, fun | n => n⟩
theorem Tryz.layJN : Go.Proofs.Lays.n156 Tryz.prog Tryz.layJN_ren := {
  mixed := by kernel_rfl
  f156 := Tryz.func169.trans (congrArg some (by kernel_rfl))
  f165 := Tryz.func32.trans (congrArg some (by kernel_rfl))
  f166 := Tryz.func33.trans (congrArg some (by kernel_rfl))
  f169 := Tryz.func35.trans (congrArg some (by kernel_rfl))
  f240 := Tryz.func47.trans (congrArg some (by kernel_rfl))
  f241 := Tryz.func48.trans (congrArg some (by kernel_rfl))
  f276 := Tryz.func58.trans (congrArg some (by kernel_rfl))
  f277 := Tryz.func59.trans (congrArg some (by kernel_rfl))
  t0 := Tryz.underlying0
  a0 := Tryz.isAgg0
  z0 := Tryz.sizeOf0
  v0 := Tryz.zeroValue0
  t3 := Tryz.underlying3
  a3 := Tryz.isAgg3
  z3 := Tryz.sizeOf3
  v3 := Tryz.zeroValue3
  t4 := Tryz.underlying4
  a4 := Tryz.isAgg4
  z4 := Tryz.sizeOf4
  v4 := Tryz.zeroValue4
  t9 := Tryz.underlying9
  a9 := Tryz.isAgg9
  z9 := Tryz.sizeOf9
  v9 := Tryz.zeroValue9
  t20 := Tryz.underlying20
  a20 := Tryz.isAgg20
  z20 := Tryz.sizeOf20
  v20 := Tryz.zeroValue20
  t31 := Tryz.underlying33
  a31 := Tryz.isAgg33
  z31 := Tryz.sizeOf33
  v31 := Tryz.zeroValue33
  t37 := Tryz.underlying56
  a37 := Tryz.isAgg56
  z37 := Tryz.sizeOf56
  v37 := Tryz.zeroValue56
  t70 := Tryz.underlying55
  a70 := Tryz.isAgg55
  z70 := Tryz.sizeOf55
  v70 := Tryz.zeroValue55
  t72 := Tryz.underlying58
  a72 := Tryz.isAgg58
  z72 := Tryz.sizeOf58
  v72 := Tryz.zeroValue58
  t75 := Tryz.underlying61
  a75 := Tryz.isAgg61
  z75 := Tryz.sizeOf61
  v75 := Tryz.zeroValue61
  t76 := Tryz.underlying62
  a76 := Tryz.isAgg62
  z76 := Tryz.sizeOf62
  v76 := Tryz.zeroValue62
  t127 := Tryz.underlying85
  a127 := Tryz.isAgg85
  z127 := Tryz.sizeOf85
  v127 := Tryz.zeroValue85
  t164 := Tryz.underlying113
  a164 := Tryz.isAgg113
  z164 := Tryz.sizeOf113
  v164 := Tryz.zeroValue113 }
end Go.Proofs
/- strings.Join, whatever the number of its texts. -/


namespace Go.Proofs.YtmmijmhdbpldpaaGreatDoor
open Go.RowKit
theorem bldExtraJ : Builder.Extra Tryz.prog Tryz.layJN_ren where
  sizeBuilder := by kernel_rfl
  liesBuilder := by kernel_rfl
  t5 := Tryz.underlying5
  a5 := Tryz.isAgg5
  z5 := Tryz.sizeOf5
  v5 := Tryz.zeroValue5
  infoByte := by kernel_rfl
  cellsByte := by kernel_rfl
  sizeByte := by kernel_rfl
  neB5 := by decide
theorem join_any (bk o c : Nat) (xs : List ByteArray) (sep : ByteArray) (w : World) (hcells : ∀ (j : Nat) x, xs[j]? = some x → w.cell? ⟨bk, o + j, none⟩ = some (.string x)) (hbk : bk < w.heap.size) (hN : xs.length ≤ 1000000) (hcap : xs.length ≤ c)
    (hlen : (Lib.join (xs.map (·.data.toList)) sep.data.toList).length ≤ 1000000) :
    Calls Tryz.prog 169 #[.slice (some ⟨bk, o, none⟩) xs.length c, .string sep] w fun e w' => e = .returned (.string ⟨(Lib.join (xs.map (·.data.toList)) sep.data.toList).toArray⟩) ∧ Below w.heap.size w w' :=
  Any.strings_Join Tryz.layJN bldExtraJ bk o c xs sep w hcells hbk (by omega) hcap (by omega)
end Go.Proofs.YtmmijmhdbpldpaaGreatDoor
/- The top block of the stack is closed, its build leaving the parser's state otherwise than it was. -/

namespace Go.Proofs.YtmmijmhdbpldpaaGreatDoor
open Go.RowKit
/-- What the top block's build hands back, and what it leaves. -/
def BuildP2 (B g : Nat) (r : PSr) (es : List Ent) (e1 e0 : Ent) (bs : List Value) (u : TypeId) (Q : PSr → Nat → World → Prop) (e : Ending) (w' : World) : Prop :=
  ∃ r' k, e = .returned (.iface u (.pointer (some ⟨k, 0, none⟩))) ∧ IsPS w' g r' ∧ r'.stack = r.stack ∧ IsStack w' B r.stack (es ++ [e1] ++ [e0]) ∧ w'.ownsRow B 69 1 e1.inner.v e1.inner.n bs ∧ B ≤ w'.heap.size ∧ Q r' k w'
def CloseP2 (B g : Nat) (r : PSr) (es : List Ent) (e1 : Ent) (bs : List Value) (u : TypeId) (Q : PSr → Nat → World → Prop) (e : Ending) (w' : World) : Prop :=
  ∃ r' k w1 v st, e = .returned (.iface u (.pointer (some ⟨k, 0, none⟩))) ∧ Q r' k w1 ∧ IsPS w' g { r' with stack := st } ∧ IsStack w' B st (es ++ [{ e1 with inner := v }]) ∧ st.v.ownBlock = r.stack.v.ownBlock ∧
    v.n = e1.inner.n + 1 ∧ w'.ownsRow B 69 1 v.v v.n (bs ++ [.iface u (.pointer (some ⟨k, 0, none⟩))]) ∧ Mod (fun k => k = g ∨ some k = r.stack.v.ownBlock ∨ some k = e1.inner.v.ownBlock) w1 w'
set_option maxRecDepth 20000 in
set_option maxHeartbeats 4000000 in
theorem close_gen2 (B g : Nat) (r : PSr) (es : List Ent) (e1 e0 : Ent) (bs : List Value) (u : TypeId) (Q : PSr → Nat → World → Prop) (f : FuncId) (x : Value) (w : World) (hps : IsPS w g r) (hst : IsStack w B r.stack (es ++ [e1] ++ [e0])) (hn : es.length ≤ 1000000) (hm : e1.inner.n ≤ 1000000)
    (hmeth : ∀ W, (method 475 e0.bt e0.bv "pub-paratext/pub/rscmarkdown.build").run Tryz.prog W = .ok (f, x) W) (hent : ∀ args W, (callFunc f args).run Tryz.prog W = .ok (.enter f args) W)
    (hta : ∀ p W, (Instr.typeAssert (.iface u (.pointer p)) 69 111 true).run Tryz.prog W = .ok (.tuple #[.pointer none, .bool false]) W)
    (hbuild : ∀ n, Calls Tryz.prog f #[x, .iface 116 (.pointer (some ⟨g, 0, none⟩))] (w.drewN n) (BuildP2 B g r es e1 e0 bs u Q)) :
    Calls Tryz.prog 63 #[.pointer (some ⟨g, 0, none⟩)] w (CloseP2 B g r es e1 bs u Q) := by
  obtain ⟨sb, cap, hv, hcap, hfr, hob, hsb, hBs, k0, k1, k2, k3⟩ := hst.top
  have c4 := hps.c4
  rw [hv] at c4
  have HV := hid hv
  have HOB := hid hob
  have HBU := hid hbuild
  clear hv hob hbuild
  simp only [List.length_append, List.length_cons, List.length_nil, Nat.zero_add] at k0 k1 k2 k3 hcap c4
  obtain ⟨i0, hi, hz0, hz1, hz2⟩ := info_parts infoBlock
  go_enter Tryz.func63, Tryz.ntmps63
  go_wp2_with fail
  go_quiet (fail)
  go_wp2_with fail
  refine (HBU.out nq).mono ?_
  rintro e w1 ⟨r', k, rfl, hps1, hst9, hst1, hin1, hB1, hq⟩
  have f1 := hps1.free
  have d4 := hps1.c4
  have hgl := hps1.lt
  rw [hst9, HV.out] at d4
  have hst1' := hst1
  rw [HV.out] at hst1'
  have hst2 := IsStack.front hst1'
  simp only [List.length_append, List.length_cons, List.length_nil, Nat.zero_add] at hst2
  obtain ⟨cs1, hcs1⟩ := IsStack.blk hst1'
  have hgs : g ≠ sb := Blk.ne_ hps1 hcs1 (by decide)
  have hnb1 : some sb ≠ (Value.slice e1.inner.a e1.inner.n e1.inner.c).ownBlock := own_ne hin1 hcs1 (by decide)
  have hsb1 := Blk.lt hcs1
  obtain ⟨sb3, cap3, hv3, hcap3, hfr3, hob3, hsb3, hBs3, q0, q1, q2, q3⟩ := hst2.top
  simp only [Sl.mk.injEq, Option.some.injEq, Addr.mk.injEq] at hv3
  obtain ⟨⟨rfl, _⟩, _, rfl⟩ := hv3
  have HST9 := hid hst9
  have HST2 := hid hst2
  have HIN1 := hid hin1
  have HPS1 := hid hps1
  have HQ := hid hq
  have HCS1 := hid hcs1
  clear hst9 hst1 hst1' hst2 hin1 hps1 hq hcs1 k0 k1 k2 k3 hfr hob3
  go_wp2_with fail
  go_region
  have hps2 : Hid (IsPS (World.drew _) g { r' with stack := ⟨some ⟨sb, 0, none⟩, es.length + 1, cap⟩ }) := hid ((HPS1.out.set4 (some ⟨sb, 0, none⟩) (es.length + 1) cap).drew)
  have hst3 : Hid (IsStack (World.drew _) B ⟨some ⟨sb, 0, none⟩, es.length + 1, cap⟩ (es ++ [e1])) := hid ((HST2.out.far (p := ⟨g, 4, none⟩) (by rw [show (Sl.mk (some ⟨sb, 0, none⟩) (es.length + 1) cap).v.ownBlock = some sb from rfl]; simpa using hgs) (.slice (some ⟨sb, 0, none⟩) (es.length + 1) cap)).drew)
  have hin2 : Hid (World.ownsRow (World.drew _) B 69 1 (.slice e1.inner.a e1.inner.n e1.inner.c) e1.inner.n bs) := hid (World.ownsRow.drewN (own_far HIN1.out (p := ⟨g, 4, none⟩) (own_ne HIN1.out HPS1.out (by decide)) (.slice (some ⟨sb, 0, none⟩) (es.length + 1) cap)) 1)
  have hm2 : Hid (Mod (fun k => k = g) w1 (World.drew _)) := hid (((Mod.refl (fun k => k = g) w1).setCell (p := ⟨g, 4, none⟩) (.inl rfl) (.slice (some ⟨sb, 0, none⟩) (es.length + 1) cap)).drew)
  clear q0 q1 q2 q3 d4 f1
  generalize World.drew _ = wa at hps2 hst3 hin2 hm2 ⊢
  have d4 := hps2.out.c4
  obtain ⟨sb', cap', hv', hcap', hfr', hob', hsb', hBs', q0, q1, q2, q3⟩ := hst3.out.top
  simp only [Sl.mk.injEq, Option.some.injEq, Addr.mk.injEq] at hv'
  obtain ⟨⟨rfl, _⟩, _, rfl⟩ := hv'
  have HOB2 := hid hob'
  clear hob' q0 q2 q3
  go_wp2_with fail
  go_quiet (fail)
  have hcl : ∀ j u', ([.iface u (.pointer (some ⟨k, 0, none⟩))] : List Value)[j]? = some u' → ((wa.drewN nq).alloc (.cells #[.iface u (.pointer (some ⟨k, 0, none⟩))] 69)).cell? ((⟨wa.heap.size, 0, none⟩ : Addr).add j) = some u' := by
    intro j u' hj
    cases j with
    | zero => rw [Addr.add, if_pos rfl]; exact ((Blk.new (wa.drewN nq) 69 #[.iface u (.pointer (some ⟨k, 0, none⟩))]).cell 0).trans hj
    | succ j => simp at hj
  have HCL := hid hcl
  clear hcl
  go_wp2_with (at_builtin; refine wpList_append_own_at _ rfl (.tmp 106) (.tmp 108) 119 rfl B 69 i0 _ 1 16 Tryz.underlying119 hi hz0 hz1 hz2 rfl (by decide) (.slice e1.inner.a e1.inner.n e1.inner.c) e1.inner.n bs rfl (World.ownsRow.alloc (World.ownsRow.drewN hin2.out nq) _) ⟨wa.heap.size, 0, none⟩ 1 1 [.iface u (.pointer (some ⟨k, 0, none⟩))] rfl rfl HCL.out ?_ ?_ ?_ ?_ ?_)
  · intro v hv; simp at hv; subst hv; rfl
  · unfold maxLen; omega
  · omega
  · simp; exact Nat.le_succ_of_le (Nat.le_trans hB1 hm2.out.size)
  · intro v' w2 hown hgr hnil hat
    have hnb : some sb ≠ (Value.slice e1.inner.a e1.inner.n e1.inner.c).ownBlock := hnb1
    have hps3 : IsPS w2 g { r' with stack := ⟨some ⟨sb, 0, none⟩, es.length + 1, cap⟩ } := Blk.grown ((hps2.out.drewN nq).alloc _) hgr (own_ne hin2.out hps2.out (by decide))
    have hm3 : Mod (fun k => some k = e1.inner.v.ownBlock) wa w2 := (((Mod.refl _ wa).drewN nq).alloc _).grown hgr (fun k hk => .inl hk.symm)
    have hst4 : IsStack w2 B ⟨some ⟨sb, 0, none⟩, es.length + 1, cap⟩ (es ++ [e1]) := hst3.out.mod hm3 (fun k hk e => by rw [HOB2.out] at hk; cases hk; exact hnb e)
    obtain ⟨g2, cap2, rfl, hc2⟩ : ∃ g2 cap2, v' = .slice (some ⟨g2, 0, none⟩) (e1.inner.n + 1) cap2 ∧ e1.inner.n + 1 ≤ cap2 := by
      rcases hown.2 with ⟨h1, h2⟩ | ⟨g2, cap2, cur, h1, _, _, h2, _⟩
      · exact absurd h2 (by omega)
      · exact ⟨g2, cap2, h1, h2⟩
    obtain ⟨_, _, hvx, _, hfrx, _, _, _, _, y1, _, _⟩ := hst4.top
    simp only [Sl.mk.injEq, Option.some.injEq, Addr.mk.injEq] at hvx
    obtain ⟨⟨rfl, _⟩, _, rfl⟩ := hvx
    have hszw : w1.heap.size ≤ wa.heap.size := hm2.out.size
    have hg2 : sb ≠ g2 := by
      rintro rfl
      rcases hat with h | h
      · exact hnb h
      · have : sb = wa.heap.size + 1 := by simpa [Value.ownBlock] using h
        omega
    have hg2' : some g2 = e1.inner.v.ownBlock ∨ w1.heap.size ≤ g2 := by
      rcases hat with h | h
      · exact .inl h
      · have : g2 = wa.heap.size + 1 := by simpa [Value.ownBlock] using h
        exact .inr (by omega)
    have HO := hid hown
    have HM := hid hm3
    have HST := hid hst4
    have HP3 := hid hps3
    have HG := hid hg2'
    clear hown hgr hat hm3 hst4 hps3 hg2' q1 d4
    go_wp2_with fail
    go_ret
    refine ⟨r', k, w1, ⟨some ⟨g2, 0, none⟩, e1.inner.n + 1, cap2⟩, ⟨some ⟨sb, 0, none⟩, es.length + 1, cap⟩, rfl, HQ.out, HP3.out.far hgs _, ⟨?_, ?_⟩, ?_, rfl, ?_, ?_⟩
    · simp
    · have s0 := HST.out.2
      rw [show (es ++ [e1]).length = es.length + 1 by simp] at s0
      have s1 := (s0.stored (es.length * 4 + 1) (.slice (some ⟨g2, 0, none⟩) (e1.inner.n + 1) cap2)).1
      rw [List.flatMap_append] at s1 ⊢
      simp only [List.flatMap_cons, List.flatMap_nil, List.append_nil, Ent.cells, List.length_append, List.length_cons, List.length_nil] at s1 ⊢
      rw [set_inner _ _ _ _ _ _ _ (ents_len es)] at s1
      exact s1
    · rw [HOB.out]; rfl
    · refine own_far HO.out ?_ _
      simpa [Value.ownBlock] using hg2
    · have m0 : Mod (fun k => k = g ∨ some k = r.stack.v.ownBlock ∨ some k = e1.inner.v.ownBlock) w1 w2 := (hm2.out.mono (fun k _ h => .inl h)).trans HM.out (fun k _ h => .inr (.inr h))
      refine m0.setCell (.inl (.inr (.inl ?_))) _
      rw [HOB.out]
end Go.Proofs.YtmmijmhdbpldpaaGreatDoor
/- A paragraph is built, and closed. -/



namespace Go.Proofs.YtmmijmhdbpldpaaGreatDoor
open Go.RowKit
def strsV (xs : List ByteArray) : List Value := xs.map Value.string
/-- The text of a paragraph's lines. -/
def joinT (xs : List ByteArray) : List UInt8 := Lib.join (xs.map (·.data.toList)) [10]
theorem newText_via (g : Nat) (W : World) : (method 475 116 (.pointer (some ⟨g, 0, none⟩)) "pub-paratext/pub/rscmarkdown.newText").run Tryz.prog W = .ok (132, .pointer (some ⟨g, 0, none⟩)) W := by kernel_rfl
/-- What the builder leaves: the paragraph d, its text's block tb. -/
def ParaQ (B : Nat) (r : PSr) (sl : Int) (n : Nat) (txt : List UInt8) (ts : List Value) (g : Nat) (w : World) (r' : PSr) (d : Nat) (w' : World) : Prop :=
  ∃ tb l, r' = { r with texts := l } ∧ w.heap.size ≤ d ∧ w.heap.size ≤ tb ∧ Blk w' d 155 #[.int .i64 sl, .int .i64 (sl + n - 1), .pointer (some ⟨tb, 0, none⟩)] ∧
    Blk w' tb 110 #[.int .i64 sl, .int .i64 (sl + n - 1), .slice none 0 0, .string ⟨txt.toArray⟩] ∧ w'.ownsRow B 105 1 l.v l.n (ts ++ [.pointer (some ⟨tb, 0, none⟩)]) ∧ l.n = r.texts.n + 1 ∧
    Mod (fun k => k = g ∨ some k = r.texts.v.ownBlock) w w'
set_option maxRecDepth 20000 in
set_option maxHeartbeats 4000000 in
theorem para_build (B g pb : Nat) (r : PSr) (es : List Ent) (e0 : Ent) (v : Sl) (xs : List ByteArray) (ts : List Value) (sl : Nat) (w : World) (hB : B ≤ w.heap.size) (hps : IsPS w g r) (hst : IsStack w B r.stack (es ++ [e0])) (hn : es.length ≤ 1000000)
    (hpar : IsPara w B pb v (strsV xs)) (hvn : v.n = xs.length) (hrow : w.ownsRow B 105 1 r.texts.v r.texts.n ts) (hrn : r.texts.n ≤ 1000000) (hsl : e0.sl = sl) (hs0 : sl ≤ 1000000)
    (hx0 : 0 < xs.length) (hxn : xs.length ≤ 1000000) (htl : (joinT xs).length ≤ 1000000) (ht0 : 0 < (joinT xs).length) (hc : RefNo (joinT xs)) :
    Calls Tryz.prog 280 #[.pointer (some ⟨pb, 0, none⟩), .iface 116 (.pointer (some ⟨g, 0, none⟩))] w fun e w' => ∃ r' d, e = .returned (.iface 153 (.pointer (some ⟨d, 0, none⟩))) ∧ IsPS w' g r' ∧ ParaQ B r sl xs.length (joinT xs) ts g w r' d w' := by
  obtain ⟨hblk, hlines, hBp⟩ := hpar
  obtain ⟨va, vn, vc⟩ := v
  dsimp only at hvn hblk hlines
  subst hvn
  have hsh : ∃ bk, va = some ⟨bk, 0, none⟩ ∧ xs.length ≤ vc ∧ bk < w.heap.size ∧ ∀ (j : Nat) x, xs[j]? = some x → w.cell? ⟨bk, 0 + j, none⟩ = some (.string x) := by
    rcases hlines.2 with ⟨_, h0⟩ | ⟨bk, cap, cur, h1, h2, hh, h3, h4, h5, h6⟩
    · omega
    · simp only [Sl.v, Value.slice.injEq] at h1
      obtain ⟨rfl, _, rfl⟩ := h1
      refine ⟨bk, rfl, h3, Blk.lt (t := 9) hh, fun j x hx => ?_⟩
      rw [Nat.zero_add, Blk.cell (t := 9) hh j]
      have hj : j < xs.length := (List.getElem?_eq_some_iff.1 hx).1
      have e1 : (cur.toList.take (xs.length * 1))[j]? = some (.string x) := by
        rw [h6]
        simp [strsV, hx]
      rw [List.getElem?_take, if_pos (by omega)] at e1
      simpa using e1
  obtain ⟨bk, rfl, hcap, hbk, hcells⟩ := hsh
  have p0 := hblk.at_ 0 rfl
  have p1 := hblk.at_ 1 rfl
  have hjn := join_any bk 0 vc xs ⟨#[10]⟩ w hcells hbk hxn hcap htl
  have HJN := hid hjn
  have HPS := hid hps
  have HST := hid hst
  have HBLK := hid hblk
  have HROW := hid hrow
  have hg := hps.lt
  clear hjn hps hst hblk hrow hlines hcells
  go_enter Tryz.func280, Tryz.ntmps280
  go_wp2_with fail
  refine HJN.out.mono ?_
  rintro e w1 ⟨rfl, hb1⟩
  have hT : joinT xs = Lib.join (xs.map (·.data.toList)) [10] := rfl
  rw [← hT]
  clear hT HJN
  generalize hT : joinT xs = T at ht0 hc htl ⊢
  cases T with
  | nil => simp at ht0
  | cons c t =>
    have hTs : (ByteArray.mk (c :: t).toArray).size = (c :: t).length := List.size_toArray ..
    have HH := hid hc
    have HT := hid hT
    clear hc hT
    have hpA : Hid (IsPS w1 g r) := hid (HPS.out.below hb1)
    have hsA : Hid (IsStack w1 B r.stack (es ++ [e0])) := hid (HST.out.below hb1)
    have hbA : Hid (Blk w1 pb 166 #[.slice (some ⟨bk, 0, none⟩) xs.length vc, .pointer none]) := hid (Blk.mod (S := fun _ => False) HBLK.out (Mod.below' hb1) (fun x => x))
    have hrA : Hid (w1.ownsRow B 105 1 r.texts.v r.texts.n ts) := hid (own_mod (S := fun _ => False) HROW.out (Mod.below' hb1) (fun _ _ h => h))
    have hB1 := hid hb1
    have hz1 := hb1.size
    clear hb1 HPS HST HBLK HROW p0 p1 hg
    have p0 := hbA.out.at_ 0 rfl
    go_wp2_with fail
    refine wp_loop_rounds 1 ?_
    rw [rounds_succ]
    go_wp2_with fail
    refine (HH.out g _).mono ?_
    rintro e w2 ⟨rfl, rfl⟩
    go_wp2_with fail
    refine (pos_any B g r es e0 w1 hpA.out hsA.out hn).mono ?_
    rintro e w3 ⟨rfl, hb3⟩
    rw [hsl]
    have hpB : Hid (IsPS w3 g r) := hid (hpA.out.below hb3)
    have hbB : Hid (Blk w3 pb 166 #[.slice (some ⟨bk, 0, none⟩) xs.length vc, .pointer none]) := hid (Blk.mod (S := fun _ => False) hbA.out (Mod.below' hb3) (fun x => x))
    have hrB : Hid (w3.ownsRow B 105 1 r.texts.v r.texts.n ts) := hid (own_mod (S := fun _ => False) hrA.out (Mod.below' hb3) (fun _ _ h => h))
    have hB3 := hid (hB1.out.trans (hb3.mono hz1))
    have hz3 := hb3.size
    clear hb3 hpA hsA hbA hrA hB1 p0
    have p0 := hbB.out.at_ 0 rfl
    have hpl := hbB.out.lt
    go_wp2_with fail
    go_region
    all_goals
      have hpC : Hid (IsPS (World.drew _) g r) := hid ((hpB.out.alloc (.cells #[.int .i64 sl, .int .i64 (sl + xs.length - 1)] 108)).drew)
      have hrC : Hid (World.ownsRow (World.drew _) B 105 1 r.texts.v r.texts.n ts) := hid (World.ownsRow.drewN (hrB.out.alloc (.cells #[.int .i64 sl, .int .i64 (sl + xs.length - 1)] 108)) 1)
      have hkC : Hid (Blk (World.drew _) w3.heap.size 108 #[.int .i64 sl, .int .i64 (sl + xs.length - 1)]) := hid (Blk.drewN (Blk.new w3 108 #[.int .i64 sl, .int .i64 (sl + xs.length - 1)]) 1)
      have hBC : Hid (Below w.heap.size w (World.drew _)) := hid ((hB3.out.alloc hB3.out.size (.cells #[.int .i64 sl, .int .i64 (sl + xs.length - 1)] 108)).drew)
      clear hpB hrB hbB hB3 p0
      generalize World.drew _ = wa at hpC hrC hkC hBC ⊢
      have k0 := hkC.out.at_ 0 rfl
      have k1 := hkC.out.at_ 1 rfl
      have hzw := hBC.out.size
      have hzk := hkC.out.lt
      have hmt : ∀ W, (method 475 116 (.pointer (some ⟨g, 0, none⟩)) "pub-paratext/pub/rscmarkdown.newText").run Tryz.prog W = .ok (132, .pointer (some ⟨g, 0, none⟩)) W := fun W => newText_via g W
      have hen : ∀ args W, (callFunc 132 args).run Tryz.prog W = .ok (.enter 132 args) W := Go.Proofs.enters_of Tryz.func132 (by kernel_rfl) rfl
      go_wp2_with fail
      go_region_law (go_simp; go_at_call 132; refine (newText_any B g r sl (sl + xs.length - 1) _ ts (World.drew wa) (Nat.le_trans hB hzw) hpC.out.drew (World.ownsRow.drewN hrC.out 1) hrn).mono ?_; rintro e w5 ⟨tb, l, rfl, htb, hblk5, hps5, hrow5, hln5, hm5⟩; have hz5 := hm5.size; have hk5 : Blk w5 w3.heap.size 108 #[.int .i64 sl, .int .i64 (sl + xs.length - 1)] := Blk.mod (w := World.drew wa) hkC.out hm5 (fun h => Or.elim h (Blk.ne_ hkC.out hpC.out (by decide)) (own_ne hrC.out hkC.out (by decide))); have k0' := hk5.at_ 0 rfl; have k1' := hk5.at_ 1 rfl)
      all_goals go_wp2_with fail
      all_goals go_ret
      all_goals
        have hm6 : Mod (fun k => k = g ∨ some k = r.texts.v.ownBlock) w w5 := ((Mod.below' hBC.out).drewN 1).trans hm5 (fun _ _ h => h)
        rw [HT.out]
        exact ⟨{ r with texts := l }, w5.heap.size, rfl, hps5.alloc _, tb, l, rfl, hm6.size, Nat.le_trans hzw htb, Blk.new _ _ _, hblk5.alloc _, hrow5.alloc _, hln5, hm6.alloc _⟩
end Go.Proofs.YtmmijmhdbpldpaaGreatDoor
/- What is open above the root is closed, and the root. -/


namespace Go.Proofs.YtmmijmhdbpldpaaGreatDoor
open Go.RowKit
/-- The block that was open above the root lies among the root's. -/
def LeafP (B g : Nat) (r : PSr) (e1 : Ent) (bs : List Value) (u : TypeId) (Q : PSr → Nat → World → Prop) (w' : World) : Prop :=
  ∃ (r' : PSr) (k : Nat) (w1 : World) (v st : Sl), Q r' k w1 ∧ IsPS w' g { r' with stack := st } ∧ IsStack w' B st ([] ++ [{ e1 with inner := v }]) ∧ v.n = e1.inner.n + 1 ∧ w'.ownsRow B 69 1 v.v v.n (bs ++ [.iface u (.pointer (some ⟨k, 0, none⟩))]) ∧
    Mod (fun k => k = g ∨ some k = r.stack.v.ownBlock ∨ some k = e1.inner.v.ownBlock) w1 w'
set_option maxRecDepth 20000 in
set_option maxHeartbeats 1600000 in
theorem trim_leaf1 (B g : Nat) (r : PSr) (e1 e0 : Ent) (bs : List Value) (u : TypeId) (Q : PSr → Nat → World → Prop) (w : World) (hps : IsPS w g r) (hst : IsStack w B r.stack ([] ++ [e1] ++ [e0]))
    (hcl : Calls Tryz.prog 63 #[.pointer (some ⟨g, 0, none⟩)] w (CloseP2 B g r [] e1 bs u Q)) :
    Calls Tryz.prog 55 #[.pointer (some ⟨g, 0, none⟩), .int .i64 1] w fun e w' => e = .returned (.tuple #[]) ∧ LeafP B g r e1 bs u Q w' := by
  have hsn : r.stack.n = 2 := hst.1
  have c4 := hps.c4
  rw [hsn] at c4
  have HCL := hid hcl
  clear hcl hps hst
  go_enter Tryz.func55, Tryz.ntmps55
  go_wp2_with fail
  refine wp_loop_rounds 2 ?_
  rw [rounds_succ]
  go_wp2_with fail
  refine HCL.out.mono ?_
  rintro e w2 ⟨r', k, w1, v, st, rfl, hq, hps2, hst2, hob, hv, hin, hm⟩
  have hst2n : st.n = 1 := hst2.1
  have d4 := hps2.c4
  rw [show ({ r' with stack := st } : PSr).stack = st from rfl, hst2n] at d4
  have H := hid (show LeafP B g r e1 bs u Q w2 from ⟨r', k, w1, v, st, hq, hps2, hst2, hv, hin, hm⟩)
  clear hq hps2 hst2 hob hv hin hm hst2n
  go_wp2_with fail
  rw [rounds_succ]
  go_wp2_with fail
  go_end0
  exact ⟨rfl, H.out⟩
/-- .. and the root is closed: the document d. -/
def DocP (B g : Nat) (r : PSr) (i0 : Sl) (sl el : Int) (bs : List Value) (u : TypeId) (Q : PSr → Nat → World → Prop) (w' : World) : Prop :=
  ∃ (r' : PSr) (k : Nat) (w1 : World) (v st : Sl) (d : Nat), Q r' k w1 ∧ w1.heap.size ≤ d ∧ IsPS w' g { r' with stack := st, root := some ⟨d, 0, none⟩ } ∧ v.n = i0.n + 1 ∧ w'.ownsRow B 69 1 v.v v.n (bs ++ [.iface u (.pointer (some ⟨k, 0, none⟩))]) ∧
    Blk w' d 339 #[.int .i64 sl, .int .i64 el, v.v, .map r'.links] ∧ Mod (fun k => k = g ∨ some k = r.stack.v.ownBlock ∨ some k = i0.v.ownBlock) w1 w'
set_option maxRecDepth 20000 in
set_option maxHeartbeats 1600000 in
theorem trim_leaf0 (B g : Nat) (r : PSr) (a : Option Addr) (i0 : Sl) (sl el : Int) (e0 : Ent) (bs : List Value) (u : TypeId) (Q : PSr → Nat → World → Prop) (w : World) (hps : IsPS w g r) (hst : IsStack w B r.stack ([] ++ [⟨98, .pointer a, i0, sl, el⟩] ++ [e0]))
    (hcl : Calls Tryz.prog 63 #[.pointer (some ⟨g, 0, none⟩)] w (CloseP2 B g r [] ⟨98, .pointer a, i0, sl, el⟩ bs u Q)) :
    Calls Tryz.prog 55 #[.pointer (some ⟨g, 0, none⟩), .int .i64 0] w fun e w' => e = .returned (.tuple #[]) ∧ DocP B g r i0 sl el bs u Q w' := by
  have hsn : r.stack.n = 2 := hst.1
  have c4 := hps.c4
  rw [hsn] at c4
  have HCL := hid hcl
  clear hcl hps hst
  go_enter Tryz.func55, Tryz.ntmps55
  go_wp2_with fail
  refine wp_loop_rounds 3 ?_
  rw [rounds_succ]
  go_wp2_with fail
  refine HCL.out.mono ?_
  rintro e w2 ⟨r', k, w1, v, st, rfl, hq, hps2, hst2, hob, hv, hin, hm⟩
  have hst2n : st.n = 1 := hst2.1
  have d4 := hps2.c4
  rw [show ({ r' with stack := st } : PSr).stack = st from rfl, hst2n] at d4
  have HPS2 := hid hps2
  have HST2 := hid hst2
  have HQ := hid hq
  have HV := hid hv
  have HIN := hid hin
  have HM := hid hm
  clear hq hps2 hst2 hob hv hin hm hst2n
  go_wp2_with fail
  rw [rounds_succ]
  go_wp2_with fail
  refine (closeRoot_any B g _ a v sl el w2 HPS2.out HST2.out).mono ?_
  rintro e w3 ⟨d, st3, rfl, hd, hst0, hps3, hblk, hm3⟩
  have d4 := hps3.c4
  rw [hst0] at d4
  have HPS3 := hid hps3
  have HBL := hid hblk
  have HM3 := hid hm3
  clear hps3 hblk hm3
  go_wp2_with fail
  rw [rounds_succ]
  go_wp2_with fail
  go_end0
  have hne : ∀ q, v.v.ownBlock = some q → q ≠ g := fun q hq e => by subst e; exact own_ne HIN.out HPS2.out (by decide) hq.symm
  refine ⟨rfl, r', k, w1, v, st3, d, HQ.out, Nat.le_trans HM.out.size hd, HPS3.out, HV.out, own_mod HIN.out HM3.out hne, HBL.out, HM.out.trans HM3.out (fun _ _ h => .inl h)⟩
end Go.Proofs.YtmmijmhdbpldpaaGreatDoor
/- A paragraph that is open is closed. -/


namespace Go.Proofs.YtmmijmhdbpldpaaGreatDoor
open Go.RowKit
theorem para_build_via (pb : Nat) (W : World) : (method 475 162 (.pointer (some ⟨pb, 0, none⟩)) "pub-paratext/pub/rscmarkdown.build").run Tryz.prog W = .ok (280, .pointer (some ⟨pb, 0, none⟩)) W := by kernel_rfl
theorem para_ext_via (pb : Nat) (W : World) : (method 475 162 (.pointer (some ⟨pb, 0, none⟩)) "pub-paratext/pub/rscmarkdown.extend").run Tryz.prog W = .ok (281, .pointer (some ⟨pb, 0, none⟩)) W := by kernel_rfl
theorem ta_para_list (p : Option Addr) (w : World) : (Instr.typeAssert (.iface 153 (.pointer p)) 69 111 true).run Tryz.prog w = .ok (.tuple #[.pointer none, .bool false]) w := by kernel_rfl
/-- What a paragraph's text may not begin with. -/
def ParaHead (T : List UInt8) : Prop := 0 < T.length ∧ T.length ≤ 1000000 ∧ RefNo T
theorem closePara_any (B g pb : Nat) (r : PSr) (e1 : Ent) (bs : List Value) (v : Sl) (xs : List ByteArray) (ts : List Value) (sl : Nat) (el : Int) (w : World) (hB : B ≤ w.heap.size) (hps : IsPS w g r) (hst : IsStack w B r.stack ([] ++ [e1] ++ [parE pb sl el]))
    (hin : w.ownsRow B 69 1 e1.inner.v e1.inner.n bs) (hmi : e1.inner.n ≤ 1000000) (hpar : IsPara w B pb v (strsV xs)) (hvn : v.n = xs.length) (hrow : w.ownsRow B 105 1 r.texts.v r.texts.n ts) (hrn : r.texts.n ≤ 1000000)
    (hs0 : sl ≤ 1000000) (hx0 : 0 < xs.length) (hxn : xs.length ≤ 1000000) (hT : ParaHead (joinT xs)) :
    Calls Tryz.prog 63 #[.pointer (some ⟨g, 0, none⟩)] w (CloseP2 B g r [] e1 bs 153 (ParaQ B r sl xs.length (joinT xs) ts g w)) := by
  refine close_gen2 B g r [] e1 (parE pb sl el) bs 153 _ 280 (.pointer (some ⟨pb, 0, none⟩)) w hps hst (by simp) hmi (para_build_via pb) (Go.Proofs.enters_of Tryz.func280 (by kernel_rfl) rfl) ta_para_list ?_
  intro n
  refine (para_build B g pb r ([] ++ [e1]) (parE pb sl el) v xs ts sl (w.drewN n) hB (hps.drewN n) (hst.drewN n) (by simp) hpar hvn (World.ownsRow.drewN hrow n) hrn rfl hs0 hx0 hxn hT.2.1 hT.1 hT.2.2).mono ?_
  rintro e w' ⟨r', d, rfl, hps', tb, l, rfl, hd, htb, hdb, htx, hrow', hln, hm⟩
  have hm' : Mod (fun k => k = g ∨ some k = r.texts.v.ownBlock) w w' := ((Mod.refl _ w).drewN n).trans hm (fun _ _ h => h)
  refine ⟨_, d, rfl, hps', rfl, ?_, ?_, Nat.le_trans hB hm'.size, tb, l, rfl, hd, htb, hdb, htx, hrow', hln, hm'⟩
  · exact hst.mod hm' (fun k hk e => by
      rcases e with e | e
      · subst e; exact own_ne hst.2 hps (by decide) hk.symm
      · exact ownApart hst.2 hrow (by decide) hk e.symm)
  · exact own_mod hin hm' (fun k hk e => by
      rcases e with e | e
      · subst e; exact own_ne hin hps (by decide) hk.symm
      · exact ownApart hin hrow (by decide) hk e.symm)
end Go.Proofs.YtmmijmhdbpldpaaGreatDoor
/- The block starters that decline a line: thematic breaks, HTML, fences, list items. -/

namespace Go.Proofs.YtmmijmhdbpldpaaGreatDoor
open Go.RowKit
/-- Place k is reached from i over at most three spaces. -/
def Reach (s : ByteArray) (i k : Nat) : Prop := i ≤ k ∧ k ≤ i + 3 ∧ k ≤ s.size ∧ ∀ m, i ≤ m → m < k → bt s m = 32
set_option maxHeartbeats 1600000 in
theorem isHR_no (i : Nat) (tb nl : Int) (s : ByteArray) (w : World) (hs : s.size ≤ 140737488355328) (hi : i ≤ s.size) (ht : ∀ k, bt s k ≠ 9) (hq : ∀ k, Reach s i k → bt s k ≠ 42 ∧ bt s k ≠ 45 ∧ bt s k ≠ 95) :
    Calls Tryz.prog 137 #[lnV i tb s nl] w fun e w' => e = .returned (.bool false) ∧ Below w.heap.size w w' := by
  have HT := hid ht
  have HQ := hid hq
  clear ht hq
  go_enter Tryz.func137, Tryz.ntmps137
  go_wp2_with fail
  refine (trimSp_any _ i 0 3 false tb nl s _ (Blk.new' (by simp)) hs hi HT.out (by omega) (by omega)).mono ?_
  rintro e w1 ⟨j, h1, h2, h3, h4, h5, h6, hm⟩
  rcases h6 with ⟨rfl, _, hln⟩ | ⟨_, hbad, _⟩
  · obtain ⟨q1, q2, q3⟩ := HQ.out j ⟨h1, h2, h3, h4⟩
    have b1 : (bt s j == 42) = false := by simpa using q1
    have b2 : (bt s j == 45) = false := by simpa using q2
    have b3 : (bt s j == 95) = false := by simpa using q3
    have HLN := hid hln
    have HM := hid hm
    clear hln hm h4 h5
    go_wp2_with fail
    refine (peek_any _ j tb nl s _ HLN.out hs).mono ?_
    rintro e w2 ⟨rfl, n2, rfl⟩
    go_wp2_with fail
    go_ret
    exact ⟨rfl, below_drewN ((((Below.refl _ _).alloc (Nat.le_refl _) _).alloc (by simp) _).trans (Mod.toBelow HM.out (by simp; omega) (fun k hk h => by omega))) n2⟩
  · omega
set_option maxHeartbeats 1600000 in
theorem newHR_no (g i : Nat) (tb nl : Int) (s : ByteArray) (w : World) (hs : s.size ≤ 140737488355328) (hi : i ≤ s.size) (ht : ∀ k, bt s k ≠ 9) (hq : ∀ k, Reach s i k → bt s k ≠ 42 ∧ bt s k ≠ 45 ∧ bt s k ≠ 95) :
    Calls Tryz.prog 88 #[.pointer (some ⟨g, 0, none⟩), lnV i tb s nl] w fun e w' => e = .returned (.tuple #[lnV i tb s nl, .bool false]) ∧ Below w.heap.size w w' := by
  have HT := hid ht
  have HQ := hid hq
  clear ht hq
  go_enter Tryz.func88, Tryz.ntmps88
  go_wp2_with fail
  refine (isHR_no i tb nl s _ hs hi HT.out HQ.out).mono ?_
  rintro e w1 ⟨rfl, hb⟩
  have hm2 := Mod.below' (S := fun _ => False) hb
  have hbox : IsLn w1 w.heap.size i tb s nl := (Blk.alloc (Blk.new' rfl) _ : Blk _ w.heap.size 104 (lnC i tb s nl)).mod (S := fun _ => False) hm2 (fun h => h)
  have hres : Blk w1 (w.heap.size + 1) 104 #[.int .i64 0, .int .i64 0, .int .i64 0, .string ⟨#[]⟩, .int .u8 0] := (Blk.new' (by simp) : Blk _ (w.heap.size + 1) 104 #[.int .i64 0, .int .i64 0, .int .i64 0, .string ⟨#[]⟩, .int .u8 0]).mod (S := fun _ => False) hm2 (fun h => h)
  have hbel : Below w.heap.size w w1 := (((Below.refl _ _).alloc (Nat.le_refl _) _).alloc (by simp) _).trans (hb.mono (by simp; omega))
  clear hb hm2
  have c0 := hbox.c0
  have c1 := hbox.c1
  have c2 := hbox.c2
  have c3 := hbox.c3
  have c4 := hbox.c4
  have r0 := hres.at_ 0 rfl
  have r1 := hres.at_ 1 rfl
  have r2 := hres.at_ 2 rfl
  have r3 := hres.at_ 3 rfl
  have r4 := hres.at_ 4 rfl
  have fr := hres.free
  have HR := hid hres
  have HB := hid hbel
  clear hbox hres hbel
  unfold lnV
  go_wp2_with fail
  have hln : Hid (IsLn _ (w.heap.size + 1) i tb s nl) := hid (ln_store HR.out i tb nl s)
  have hb2 : Hid (Below w.heap.size w _) := hid (((((HB.out.setCell (p := ⟨w.heap.size + 1, 0, none⟩) (by simp) (.int .i64 0)).setCell (p := ⟨w.heap.size + 1, 1, none⟩) (by simp) (.int .i64 i)).setCell (p := ⟨w.heap.size + 1, 2, none⟩) (by simp) (.int .i64 tb)).setCell (p := ⟨w.heap.size + 1, 3, none⟩) (by simp) (.string s)).setCell (p := ⟨w.heap.size + 1, 4, none⟩) (by simp) (.int .u8 nl))
  generalize World.setCell _ ⟨w.heap.size + 1, 4, none⟩ _ = wy at hln hb2 ⊢
  clear c0 c1 c2 c3 c4 r0 r1 r2 r3 r4 fr
  have k0 := hln.out.c0
  have k1 := hln.out.c1
  have k2 := hln.out.c2
  have k3 := hln.out.c3
  have k4 := hln.out.c4
  refine bodyPost_ret (by simp [results, Tryz.results88, go_sem, k0, k1, k2, k3, k4]; try rfl) rfl ?_
  exact ⟨rfl, hb2.out⟩
set_option maxRecDepth 20000 in
set_option maxHeartbeats 1600000 in
theorem startHTML_no (g b i : Nat) (tb nl : Int) (s : ByteArray) (w : World) (h : IsLn w b i tb s nl) (hs : s.size ≤ 140737488355328) (hi : i ≤ s.size) (ht : ∀ k, bt s k ≠ 9) (hq : ∀ k, Reach s i k → bt s k ≠ 60) :
    Calls Tryz.prog 140 #[.pointer (some ⟨g, 0, none⟩), .pointer (some ⟨b, 0, none⟩)] w fun e w' => e = .returned (.bool false) ∧ Below w.heap.size w w' := by
  have h0 := h.c0
  have h1 := h.c1
  have h2 := h.c2
  have h3 := h.c3
  have h4 := h.c4
  have HT := hid ht
  have HQ := hid hq
  clear ht hq h
  go_enter Tryz.func140, Tryz.ntmps140
  go_wp2_with fail
  go_step3
  go_wp2_with fail
  refine (trimSp_any _ i 0 3 false tb nl s _ (Blk.new' rfl) hs hi HT.out (by omega) (by omega)).mono ?_
  rintro e w1 ⟨j, a1, a2, a3, a4, a5, a6, hm⟩
  rcases a6 with ⟨rfl, _, hln⟩ | ⟨_, hbad, _⟩
  · have q1 : (bt s j == 60) = false := by simpa using HQ.out j ⟨a1, a2, a3, a4⟩
    have HLN := hid hln
    have HM := hid hm
    clear hln hm a4 a5
    go_wp2_with fail
    refine (peek_any _ j tb nl s _ HLN.out hs).mono ?_
    rintro e w2 ⟨rfl, n2, rfl⟩
    go_wp2_with fail
    all_goals (try rw [Exit.noGoto_ret])
    go_ret
    exact ⟨rfl, below_drewN (((Below.refl _ _).alloc (Nat.le_refl _) _).trans (Mod.toBelow HM.out (by simp) (fun k hk h => by omega))) n2⟩
  · omega
set_option maxRecDepth 20000 in
set_option maxHeartbeats 1600000 in
theorem newHTML_no (g i : Nat) (tb nl : Int) (s : ByteArray) (w : World) (hs : s.size ≤ 140737488355328) (hi : i ≤ s.size) (ht : ∀ k, bt s k ≠ 9) (hq : ∀ k, Reach s i k → bt s k ≠ 60) :
    Calls Tryz.prog 90 #[.pointer (some ⟨g, 0, none⟩), lnV i tb s nl] w fun e w' => e = .returned (.tuple #[lnV i tb s nl, .bool false]) ∧ Below w.heap.size w w' := by
  have HT := hid ht
  have HQ := hid hq
  clear ht hq
  go_enter Tryz.func90, Tryz.ntmps90
  go_wp2_with fail
  refine (startHTML_no g _ i tb nl s _ (Blk.new' (by simp)) hs hi HT.out HQ.out).mono ?_
  rintro e w1 ⟨rfl, hb⟩
  have hm2 := Mod.below' (S := fun _ => False) hb
  have hbox : IsLn w1 w.heap.size i tb s nl := (Blk.alloc (Blk.alloc (Blk.new' rfl) _) _ : Blk _ w.heap.size 104 (lnC i tb s nl)).mod (S := fun _ => False) hm2 (fun h => h)
  have hres : Blk w1 (w.heap.size + 1) 104 #[.int .i64 0, .int .i64 0, .int .i64 0, .string ⟨#[]⟩, .int .u8 0] := (Blk.alloc (Blk.new' (by simp)) _ : Blk _ (w.heap.size + 1) 104 #[.int .i64 0, .int .i64 0, .int .i64 0, .string ⟨#[]⟩, .int .u8 0]).mod (S := fun _ => False) hm2 (fun h => h)
  have hbel : Below w.heap.size w w1 := ((((Below.refl _ _).alloc (Nat.le_refl _) _).alloc (by simp) _).alloc (by simp; omega) _).trans (hb.mono (by simp; omega))
  clear hb hm2
  have c0 := hbox.c0
  have c1 := hbox.c1
  have c2 := hbox.c2
  have c3 := hbox.c3
  have c4 := hbox.c4
  have r0 := hres.at_ 0 rfl
  have r1 := hres.at_ 1 rfl
  have r2 := hres.at_ 2 rfl
  have r3 := hres.at_ 3 rfl
  have r4 := hres.at_ 4 rfl
  have fr := hres.free
  have HR := hid hres
  have HB := hid hbel
  clear hbox hres hbel
  unfold lnV
  go_wp2_with fail
  have hln : Hid (IsLn _ (w.heap.size + 1) i tb s nl) := hid (ln_store HR.out i tb nl s)
  have hb2 : Hid (Below w.heap.size w _) := hid (((((HB.out.setCell (p := ⟨w.heap.size + 1, 0, none⟩) (by simp) (.int .i64 0)).setCell (p := ⟨w.heap.size + 1, 1, none⟩) (by simp) (.int .i64 i)).setCell (p := ⟨w.heap.size + 1, 2, none⟩) (by simp) (.int .i64 tb)).setCell (p := ⟨w.heap.size + 1, 3, none⟩) (by simp) (.string s)).setCell (p := ⟨w.heap.size + 1, 4, none⟩) (by simp) (.int .u8 nl))
  generalize World.setCell _ ⟨w.heap.size + 1, 4, none⟩ _ = wy at hln hb2 ⊢
  clear c0 c1 c2 c3 c4 r0 r1 r2 r3 r4 fr
  have k0 := hln.out.c0
  have k1 := hln.out.c1
  have k2 := hln.out.c2
  have k3 := hln.out.c3
  have k4 := hln.out.c4
  refine bodyPost_ret (by simp [results, Tryz.results90, go_sem, k0, k1, k2, k3, k4]; try rfl) rfl ?_
  exact ⟨rfl, hb2.out⟩
/-- How many spaces a counter holds. -/
def cntI (w : World) (n : Nat) : Nat := match w.cell? ⟨n, 0, none⟩ with
  | some v => (intOf v).toNat
  | none => 0
theorem cntI_of {w : World} {n m : Nat} {t : TypeId} (h : Blk w n t #[.int .i64 m]) : cntI w n = m := by
  unfold cntI
  rw [h.at_ 0 rfl]
  simp [intOf]
theorem stop_here (s : ByteArray) (i j : Nat) (hi : i ≤ j) (hj : j ≤ i + 3) (hs : j ≤ s.size) (h : ∀ m, i ≤ m → m < j → bt s m = 32) : Reach s i j := ⟨hi, hj, hs, h⟩
def FenceR (b n i : Nat) (tb nl : Int) (s : ByteArray) (w0 : World) (wr : World) : Prop :=
  ∃ m j : Nat, m ≤ 3 ∧ j = i + m ∧ j ≤ s.size ∧ (∀ k, i ≤ k → k < j → bt s k = 32) ∧ IsLn wr b j tb s nl ∧ Blk wr n 3 #[.int .i64 m] ∧ Mod (fun k => k = n) w0 wr
set_option maxRecDepth 20000 in
set_option maxHeartbeats 1600000 in
theorem trimFence_no (b n i f u : Nat) (v : Value) (tb nl : Int) (s : ByteArray) (w : World) (h : IsLn w b i tb s nl) (hn : Blk w n 3 #[v]) (hs : s.size ≤ 140737488355328) (hi : i ≤ s.size) (ht : ∀ k, bt s k ≠ 9) (hq : ∀ k, Reach s i k → bt s k ≠ 96 ∧ bt s k ≠ 126) :
    Calls Tryz.prog 141 #[.pointer (some ⟨b, 0, none⟩), .pointer (some ⟨f, 0, none⟩), .pointer (some ⟨u, 0, none⟩), .pointer (some ⟨n, 0, none⟩)] w fun e w' => e = .returned (.bool false) ∧ Mod (fun k => k = n) w w' := by
  have h0 := h.c0
  have h1 := h.c1
  have h2 := h.c2
  have h3 := h.c3
  have h4 := h.c4
  have hlt := Blk.lt h
  have hnlt := Blk.lt hn
  have n0 := hn.at_ 0 rfl
  have fn := hn.free 0
  have hbn : b ≠ n := Blk.ne_ h hn (by decide)
  have HT := hid ht
  have HQ := hid hq
  have HN := hid hn
  clear ht hq h hn
  go_enter Tryz.func141, Tryz.ntmps141
  go_wp2_with fail
  go_loopw [] (fun wr => FenceR w.heap.size n i tb nl s w wr) (fun wr => 4 - cntI wr n)
  case atStart => exact ⟨0, i, by omega, by omega, hi, fun k a b => absurd a (by omega), Blk.new' (by simp), by simpa using (Blk.alloc (Blk.set_ HN.out 0 (.int .i64 0)) _), ((Mod.refl (fun k => k = n) w).setCell (p := ⟨n, 0, none⟩) (.inl rfl) _).alloc _⟩
  case round =>
    obtain ⟨m, _, hm, rfl, hjs, hsp, hln, hnb, hmod⟩ := hrel
    have hcnt := cntI_of hnb
    have q0 := hnb.at_ 0 rfl
    have fq := hnb.free 0
    have HSP := hid hsp
    have HLN := hid hln
    have HNB := hid hnb
    have HMOD := hid hmod
    have HCNT := hid hcnt
    clear n0 fn h0 h1 h2 h3 h4 hsp hln hnb hmod hcnt
    have hnw : n ≠ w.heap.size := by omega
    have hwn : w.heap.size ≠ n := by omega
    by_cases hgo : m < 3 ∧ (i + m) < s.size ∧ bt s (i + m) = 32
    · obtain ⟨hm3, hjs', h32⟩ := hgo
      go_wp2_with fail
      refine (trimSp_any _ (i + m) 1 1 false tb nl s _ HLN.out hs hjs HT.out (by omega) (by omega)).mono ?_
      rintro e w2 ⟨j', a1, a2, a3, a4, a5, a6, hm2⟩
      rcases a6 with ⟨rfl, _, hl2⟩ | ⟨_, a7, _, _, _⟩
      · have hj' : j' = (i + m) + 1 := by
          rcases Nat.lt_or_ge j' ((i + m) + 1) with h | h
          · have hjj : j' = i + m := by omega
            rw [hjj] at a5
            exact absurd h32 (a5 (by omega) hjs')
          · omega
        subst hj'
        have hn2 := HNB.out.mod hm2 hnw
        have q1 := hn2.at_ 0 rfl
        have fq1 := hn2.free 0
        have HL2 := hid hl2
        have HM2 := hid hm2
        have HN2 := hid hn2
        clear q0 fq a4 a5 hl2 hm2 hn2
        go_wp2_with fail
        go_roundw
        case rel => exact ⟨m + 1, (i + m) + 1, by omega, by omega, by omega, fun k h1 h2 => by
          rcases Nat.lt_or_ge k (i + m) with h | h
          · exact HSP.out k h1 h
          · have hkk : k = i + m := by omega
            rw [hkk]; exact h32, HL2.out.far hwn _, by simpa using (Blk.set_ HN2.out 0 (.int .i64 ((m : Int) + 1))), (HMOD.out.trans (S' := fun k => k = w.heap.size) HM2.out (fun k h1 h2 => by omega)).setCell (.inl rfl) _⟩
        case measure => rw [cntI_of (m := m + 1) (by simpa using (Blk.set_ HN2.out 0 (.int .i64 ((m : Int) + 1)))), HCNT.out]; omega
      · have hjj : j' = i + m := by omega
        rw [hjj] at a5
        exact absurd h32 (a5 (by omega) (by omega))
    · have hqq := HQ.out (i + m) ⟨by omega, by omega, hjs, HSP.out⟩
      have b1 : (bt s (i + m) == 96) = false := by simpa using hqq.1
      have b2 : (bt s (i + m) == 126) = false := by simpa using hqq.2
      clear hqq
      by_cases hm3 : m < 3
      · have hno : (i + m) < s.size → bt s (i + m) ≠ 32 := fun h1 h2 => hgo ⟨hm3, h1, h2⟩
        have HNO := hid hno
        clear hgo hno
        go_wp2_with fail
        refine (trimSp_any _ (i + m) 1 1 false tb nl s _ HLN.out hs hjs HT.out (by omega) (by omega)).mono ?_
        rintro e w2 ⟨j', a1, a2, a3, a4, a5, a6, hm2⟩
        rcases a6 with ⟨_, a7, _⟩ | ⟨rfl, _, _, _, hl2⟩
        · exfalso
          rcases Nat.lt_or_ge (i + m) j' with h | h
          · exact HNO.out (by omega) (a4 (i + m) (Nat.le_refl _) h)
          · rcases a7 with h1 | h1 | h1
            · omega
            · omega
            · cases h1.1
        · have HL2 := hid hl2
          have HM2 := hid hm2
          clear a4 a5 hl2 hm2
          go_wp2_with fail
          refine (peek_any _ (i + m) tb nl s _ HL2.out hs).mono ?_
          rintro e w3 ⟨rfl, n3, rfl⟩
          go_wp2_with fail
          go_ret
          exact ⟨rfl, (HMOD.out.trans (S' := fun k => k = w.heap.size) HM2.out (fun k h1 h2 => by omega)).drewN n3⟩
      · obtain rfl : m = 3 := by omega
        clear hgo
        go_wp2_with fail
        refine (peek_any _ (i + 3) tb nl s _ HLN.out hs).mono ?_
        rintro e w3 ⟨rfl, n3, rfl⟩
        go_wp2_with fail
        go_ret
        exact ⟨rfl, HMOD.out.drewN n3⟩
end Go.Proofs.YtmmijmhdbpldpaaGreatDoor
/- A line that is not indented is no code. -/


namespace Go.Proofs.YtmmijmhdbpldpaaGreatDoor
open Go.RowKit
set_option maxRecDepth 20000 in
set_option maxHeartbeats 1600000 in
theorem newPre_no (B g : Nat) (r : PSr) (e0 : Ent) (p : Option Addr) (nl : Int) (s : ByteArray) (w : World) (hps : IsPS w g r) (hst : IsStack w B r.stack ([] ++ [e0])) (hb1 : e0.bt = 98) (hb2 : e0.bv = .pointer p)
    (hs : s.size ≤ 1000000) (h0 : 0 < s.size) (ht : ∀ k, bt s k ≠ 9) (h32 : bt s 0 ≠ 32) :
    Calls Tryz.prog 92 #[.pointer (some ⟨g, 0, none⟩), lnV 0 0 s nl] w fun e w' => e = .returned (.tuple #[lnV 0 0 s nl, .bool false]) ∧ Below w.heap.size w w' := by
  have HT := hid ht
  have HPS := hid hps
  have HST := hid hst
  clear ht hps hst
  go_enter Tryz.func92, Tryz.ntmps92
  go_wp2_with fail
  refine (para_top B g r [] e0 p _ (((HPS.out.alloc _).alloc _).alloc _) (((HST.out.alloc _).alloc _).alloc _) (by simp) hb1 hb2).mono ?_
  rintro e w1 ⟨rfl, n1, rfl⟩
  go_wp2_with fail
  refine (trimSp_any _ 0 4 4 false 0 nl s _ (Blk.drewN (Blk.new' (by simp)) n1) (by omega) (Nat.zero_le _) HT.out (by omega) (by omega)).mono ?_
  rintro e w2 ⟨j, a1, a2, a3, a4, a5, a6, hm⟩
  have hj : j = 0 := by
    rcases Nat.eq_or_lt_of_le (Nat.zero_le j) with h | h
    · exact h.symm
    · exact absurd (a4 0 (Nat.le_refl _) h) h32
  subst hj
  rcases a6 with ⟨_, h, _⟩ | ⟨rfl, _, _, _, _⟩
  · rcases h with h | h | ⟨h, _⟩
    · omega
    · omega
    · cases h
  have hbox : IsLn w2 w.heap.size 0 0 s nl := (Blk.drewN (Blk.alloc (Blk.alloc (Blk.new' rfl) _) _) n1 : Blk _ w.heap.size 104 (lnC 0 0 s nl)).mod hm (by show ¬ (w.heap.size = w.heap.size + 1 + 1); omega)
  have hres : Blk w2 (w.heap.size + 1) 104 #[.int .i64 0, .int .i64 0, .int .i64 0, .string ⟨#[]⟩, .int .u8 0] := (Blk.drewN (Blk.alloc (Blk.new' (by simp)) _) n1 : Blk _ (w.heap.size + 1) 104 #[.int .i64 0, .int .i64 0, .int .i64 0, .string ⟨#[]⟩, .int .u8 0]).mod hm (by show ¬ (w.heap.size + 1 = w.heap.size + 1 + 1); omega)
  have hbel : Below w.heap.size w w2 := (below_drewN ((((Below.refl _ _).alloc (Nat.le_refl _) _).alloc (by simp) _).alloc (by simp; omega) _) n1).trans (Mod.toBelow hm (by simp; omega) (fun k hk h => by omega))
  clear hm a1 a2 a3 a4 a5
  have c0 := hbox.c0
  have c1 := hbox.c1
  have c2 := hbox.c2
  have c3 := hbox.c3
  have c4 := hbox.c4
  have r0 := hres.at_ 0 rfl
  have r1 := hres.at_ 1 rfl
  have r2 := hres.at_ 2 rfl
  have r3 := hres.at_ 3 rfl
  have r4 := hres.at_ 4 rfl
  have fr := hres.free
  have HR := hid hres
  have HB := hid hbel
  clear hbox hres hbel
  unfold lnV
  go_wp2_with fail
  have hln : Hid (IsLn _ (w.heap.size + 1) 0 0 s nl) := hid (ln_store HR.out 0 0 nl s)
  have hb3 : Hid (Below w.heap.size w _) := hid (((((HB.out.setCell (p := ⟨w.heap.size + 1, 0, none⟩) (by simp) (.int .i64 0)).setCell (p := ⟨w.heap.size + 1, 1, none⟩) (by simp) (.int .i64 0)).setCell (p := ⟨w.heap.size + 1, 2, none⟩) (by simp) (.int .i64 0)).setCell (p := ⟨w.heap.size + 1, 3, none⟩) (by simp) (.string s)).setCell (p := ⟨w.heap.size + 1, 4, none⟩) (by simp) (.int .u8 nl))
  generalize World.setCell _ ⟨w.heap.size + 1, 4, none⟩ _ = wy at hln hb3 ⊢
  clear c0 c1 c2 c3 c4 r0 r1 r2 r3 r4 fr
  have k0 := hln.out.c0
  have k1 := hln.out.c1
  have k2 := hln.out.c2
  have k3 := hln.out.c3
  have k4 := hln.out.c4
  refine bodyPost_ret (by simp [results, Tryz.results92, go_sem, k0, k1, k2, k3, k4]; try rfl) rfl ?_
  exact ⟨rfl, hb3.out⟩
end Go.Proofs.YtmmijmhdbpldpaaGreatDoor
/- Small facts on the stack while a line is read. -/

namespace Go.Proofs.YtmmijmhdbpldpaaGreatDoor
open Go.RowKit
theorem IsStack.shape {w : World} {B : Nat} {s : Sl} {es : List Ent} (h : IsStack w B s es) (hn : 0 < es.length) : ∃ sb cap cs, s = ⟨some ⟨sb, 0, none⟩, es.length, cap⟩ ∧ Blk w sb 121 cs ∧ es.length ≤ cap ∧ cap * 4 ≤ cs.size ∧ B ≤ sb := by
  obtain ⟨h0, h1, h2⟩ := h
  rcases h2 with ⟨_, h2⟩ | ⟨g, cap, cur, h3, hb, hh, h4, _, h5, _⟩
  · omega
  · obtain ⟨a, n, c⟩ := s
    simp only [Sl.v, Value.slice.injEq] at h3
    obtain ⟨rfl, _, rfl⟩ := h3
    dsimp only at h0
    subst h0
    exact ⟨g, c, cur, rfl, hh, h4, by omega, hb⟩
theorem atLine_of {w : World} {g B sb cap n k : Nat} {lineno : Int} {r : PSr} {es : List Ent} (hps : IsPS w g r) (hd : r.lineDepth = k) (hl : r.lineno = lineno) (hs : r.stack = ⟨some ⟨sb, 0, none⟩, n, cap⟩) (hst : IsStack w B r.stack es) (hn : es.length = n) (h0 : 0 < n) (hm : n ≤ 1000000) : AtLine g sb cap n lineno k w := by
  subst hn
  obtain ⟨sb', cap', cs, h1, h2, h3, h4, _⟩ := hst.shape h0
  rw [hs] at h1
  simp only [Sl.mk.injEq, Option.some.injEq, Addr.mk.injEq] at h1
  obtain ⟨⟨rfl, _⟩, _, rfl⟩ := h1
  exact ⟨r, cs, hps, hd, hl, hs, h2, h3, h4, hm⟩
theorem Mod.lnKept {base g : Nat} {a w w' : World} (h : Mod (fun k => g ≤ k) a w) (hk : LnKept base w w') (hg : g ≤ base) : Mod (fun k => g ≤ k) a w' := h.trans hk (fun k _ ⟨hb, _⟩ => by omega)
/-- The end line of the top entry, put in. -/
theorem IsStack.endLine {w : World} {B sb cap : Nat} {e0 e1 : Ent} {st : Sl} (hst : IsStack w B st ([] ++ [e0] ++ [e1])) (hs : st = ⟨some ⟨sb, 0, none⟩, 2, cap⟩) (x : Int) : IsStack (w.setCell ⟨sb, (0 + 1) * 4 + 3, none⟩ (.int .i64 x)) B st ([] ++ [e0] ++ [{ e1 with el := x }]) := by
  refine ⟨hst.1, ?_⟩
  have s0 := hst.2
  rw [hs] at s0 ⊢
  have s1 := (s0.stored 7 (.int .i64 x)).1
  simpa [Ent.cells] using s1
end Go.Proofs.YtmmijmhdbpldpaaGreatDoor
