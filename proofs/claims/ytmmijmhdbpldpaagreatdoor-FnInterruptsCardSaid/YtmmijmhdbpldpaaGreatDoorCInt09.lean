/- Texts of this proof, joined: A block of HTML: it is built, closed, and printed, A block is laid upon the open ones, whatever is closed ahead of it, A block of HTML begins: the kinds that end with a text of their own. -/
import Derived.Test.YtmmijmhdbpldpaaGreatDoorCInt08
import Derived.Test.YtmmijmhdbpldpaaGreatDoorCInt07
/- A block of HTML: it is built, closed, and printed. -/


namespace Go.Proofs.YtmmijmhdbpldpaaGreatDoor
open Go.RowKit
def htmE (hb : Nat) (sl el : Int) : Ent := ⟨282, .pointer (some ⟨hb, 0, none⟩), Sl.nil, sl, el⟩
def htmV (k : Nat) : Value := .iface 370 (.pointer (some ⟨k, 0, none⟩))
set_option maxRecDepth 20000 in
set_option maxHeartbeats 1600000 in
theorem htm_build (B g hb : Nat) (x0 x2 : Value) (r : PSr) (es : List Ent) (e0 : Ent) (v : Sl) (w : World) (hps : IsPS w g r) (hst : IsStack w B r.stack (es ++ [e0])) (hn : es.length ≤ 1000000) (hpr : Blk w hb 284 #[x0, .slice v.a v.n v.c, x2]) :
    Calls Tryz.prog 341 #[.pointer (some ⟨hb, 0, none⟩), .iface 116 (.pointer (some ⟨g, 0, none⟩))] w fun e w' => ∃ d, e = .returned (.iface 370 (.pointer (some ⟨d, 0, none⟩))) ∧ w.heap.size ≤ d ∧ Blk w' d 372 #[.int .i64 e0.sl, .int .i64 e0.el, .slice v.a v.n v.c] ∧ Below w.heap.size w w' := by
  have c1 : w.cell? ⟨hb, 1, none⟩ = some (.slice v.a v.n v.c) := hpr.at_ 1 rfl
  have hg := hps.lt
  go_enter Tryz.func341, Tryz.ntmps341
  go_wp2
  go_region_held3 (fun w' => IsPS w' g r ∧ IsStack w' B r.stack (es ++ [e0]) ∧ w'.cell? ⟨hb, 1, none⟩ = some (.slice v.a v.n v.c) ∧ Below w.heap.size w w' ∧ Blk w' hb 284 #[x0, .slice v.a v.n v.c, x2])
    (first
      | exact ⟨hps.drew, hst.drew, c1, (Below.refl _ _).drew, hpr⟩
      | (go_split_ands; exact ⟨IsPS.below (by assumption) hbq, IsStack.below (by assumption) hbq, (Blk.mod (S := fun _ => False) (by assumption) (Mod.below' hbq) (fun x => x)).at_ 1 rfl, Below.trans (by assumption) (hbq.mono (Below.size (by assumption))), Blk.mod (S := fun _ => False) (by assumption) (Mod.below' hbq) (fun x => x)⟩)
      | (go_split_ands; exact ⟨IsPS.alloc (by assumption) _, IsStack.alloc (by assumption) _, (Blk.alloc (by assumption) _).at_ 1 rfl, Below.alloc (by assumption) (Below.size (by assumption)) _, Blk.alloc (by assumption) _⟩))
    (first
      | (go_at_call 252; (try go_split_ands); refine (pos_any B g r es e0 _ (by assumption) (by assumption) hn).mono ?_; rintro e w1 ⟨rfl, hbq⟩))
  all_goals go_wp2
  all_goals go_ret
  all_goals
    obtain ⟨_, _, _, hB, _⟩ := ‹IsPS _ g r ∧ _ ∧ _ ∧ Below w.heap.size w _ ∧ _›
    have hz : w.heap.size ≤ w1.heap.size := hbq.size
    exact ⟨_, rfl, hz, Blk.new _ _ _, hB⟩
theorem htm_build_via (hb : Nat) (W : World) : (method 475 282 (.pointer (some ⟨hb, 0, none⟩)) "pub-paratext/pub/rscmarkdown.build").run Tryz.prog W = .ok (341, .pointer (some ⟨hb, 0, none⟩)) W := by kernel_rfl
theorem htm_ext_via (hb : Nat) (W : World) : (method 475 282 (.pointer (some ⟨hb, 0, none⟩)) "pub-paratext/pub/rscmarkdown.extend").run Tryz.prog W = .ok (342, .pointer (some ⟨hb, 0, none⟩)) W := by kernel_rfl
theorem ta_htm_list (p : Option Addr) (w : World) : (Instr.typeAssert (.iface 370 (.pointer p)) 69 111 true).run Tryz.prog w = .ok (.tuple #[.pointer none, .bool false]) w := by kernel_rfl
/-- A block of HTML, as its builder leaves it. -/
def HtmQ (B : Nat) (r : PSr) (sl el : Int) (v : Sl) (ls : List Value) (w : World) (r' : PSr) (k : Nat) (w' : World) : Prop :=
  r' = r ∧ w.heap.size ≤ k ∧ Blk w' k 372 #[.int .i64 sl, .int .i64 el, v.v] ∧ w'.ownsRow B 9 1 v.v v.n ls ∧ Below w.heap.size w w'
theorem closeHtm_any (B g hb : Nat) (r : PSr) (e1 : Ent) (bs : List Value) (eb : Bool) (v : Sl) (ls : List Value) (fn : Value) (k : EndK) (sl el : Int) (w : World) (hB : B ≤ w.heap.size) (hps : IsPS w g r) (hst : IsStack w B r.stack ([] ++ [e1] ++ [htmE hb sl el]))
    (hin : w.ownsRow B 69 1 e1.inner.v e1.inner.n bs) (hmi : e1.inner.n ≤ 1000000) (hh : IsHtm w B hb eb v ls fn k) :
    Calls Tryz.prog 63 #[.pointer (some ⟨g, 0, none⟩)] w (CloseP2 B g r [] e1 bs 370 (HtmQ B r sl el v ls w)) := by
  refine close_gen2 B g r [] e1 (htmE hb sl el) bs 370 _ 341 (.pointer (some ⟨hb, 0, none⟩)) w hps hst (by simp) hmi (htm_build_via hb) (Go.Proofs.enters_of Tryz.func341 (by kernel_rfl) rfl) ta_htm_list ?_
  intro n
  refine (htm_build B g hb (.bool eb) fn r ([] ++ [e1]) (htmE hb sl el) v (w.drewN n) (hps.drewN n) (hst.drewN n) (by simp) (hh.1.drewN n)).mono ?_
  rintro e w' ⟨d, rfl, hd, hblk, hb'⟩
  have hbw : Below w.heap.size w w' := (below_drewN (Below.refl _ _) n).trans hb'
  exact ⟨r, d, rfl, hps.below hbw, rfl, hst.below hbw, own_mod (S := fun _ => False) hin (Mod.below' hbw) (fun _ _ h => h), Nat.le_trans hB hbw.size, rfl, hd, hblk, own_mod (S := fun _ => False) hh.2.1 (Mod.below' hbw) (fun _ _ h => h), hbw⟩
/-- What a block of HTML prints. -/
def htmOut (ls : List (List UInt8)) : List UInt8 := ls.flatMap (fun l => l ++ [10])
theorem htmOut_snoc (ls : List (List UInt8)) (l : List UInt8) : htmOut (ls ++ [l]) = htmOut ls ++ (l ++ [10]) := by unfold htmOut; rw [List.flatMap_append]; simp
theorem htmOut_len (ls : List (List UInt8)) (m : Nat) (h : ∀ l ∈ ls, l.length ≤ m) : (htmOut ls).length ≤ ls.length * (m + 1) := by
  induction ls with
  | nil => simp [htmOut]
  | cons l ls ih =>
    have h1 := ih (fun x hx => h x (List.mem_cons_of_mem _ hx))
    have h2 := h l (List.mem_cons_self ..)
    unfold htmOut at h1 ⊢
    rw [List.flatMap_cons, List.length_append, List.length_append, List.length_cons, List.length_nil]
    rw [show (l :: ls).length = ls.length + 1 from rfl, Nat.add_mul]
    omega
set_option maxRecDepth 20000 in
set_option maxHeartbeats 1600000 in
theorem htmHTML_any (B b d base : Nat) (bs : List UInt8) (sl el : Int) (v : Sl) (ls : List (List UInt8)) (w : World) (hblk : Blk w d 372 #[.int .i64 sl, .int .i64 el, v.v]) (hrow : w.ownsRow base 9 1 v.v v.n (ls.map lineV)) (hvn : v.n = ls.length) (h0 : 0 < ls.length) (hbuf : IsBuf B b bs w) (hB : B ≤ w.heap.size) (hbl : bs.length ≤ 900000) (hlen : ∀ l ∈ ls, l.length ≤ 1000) (hn : ls.length ≤ 100) :
    Calls Tryz.prog 357 #[.pointer (some ⟨d, 0, none⟩), .pointer (some ⟨b, 0, none⟩)] w (PrintP B b bs (htmOut ls) w) := by
  obtain ⟨ra, rn, rc⟩ := v
  dsimp only at hvn
  subst hvn
  obtain ⟨rb, rcap, hra, hBr, hrlt⟩ := own_form hrow h0
  simp only [Sl.v, Value.slice.injEq] at hra
  obtain ⟨rfl, _, rfl⟩ := hra
  obtain ⟨bcs, hbb⟩ := hbuf.blk
  have hcb : d ≠ b := Blk.ne_ hblk hbb (by decide)
  have hrb := own_ne hrow hbb (by decide)
  have c2 : w.cell? ⟨d, 2, none⟩ = some (.slice (some ⟨rb, 0, none⟩) ls.length rc) := hblk.at_ 2 rfl
  have HBUF := hid hbuf
  have HBLK := hid hblk
  have HROW := hid hrow
  have HLEN := hid hlen
  have HK0 : Hid (Kept b w w) := hid (Lib.OthersKept.refl _ _ _)
  clear hbuf hblk hrow hlen hbb
  go_enter Tryz.func357, Tryz.ntmps357
  go_wp2_with fail
  go_loopw [11] (fun t11 wy => ∃ i : Nat, i ≤ ls.length ∧ t11 = .int .i64 i ∧ IsBuf B b (bs ++ htmOut (ls.take i)) wy ∧ Below B w wy ∧ Kept b w wy) (fun t11 _ => ls.length + 1 - (intOf t11).toNat)
  case atStart => exact ⟨0, Nat.zero_le _, rfl, by simpa [htmOut] using HBUF.out, Below.refl _ _, HK0.out⟩
  case round =>
    obtain ⟨i, hi, rfl, hbf, hbe, hk⟩ := hrel
    have HBF := hid hbf
    have HBE := hid hbe
    have HK := hid hk
    clear hbf hbe hk
    by_cases hlt : i < ls.length
    · have hgi := List.getElem?_eq_getElem hlt
      have hml := HLEN.out _ (List.getElem_mem hlt)
      have htk : Hid (htmOut (ls.take (i + 1)) = htmOut (ls.take i) ++ (ls[i] ++ [10])) := hid (by rw [List.take_add_one, hgi]; exact htmOut_snoc _ _)
      have hol : (htmOut (ls.take i)).length ≤ 200000 := by
        have h1 := htmOut_len (ls.take i) 1000 (fun l hl => HLEN.out l (List.mem_of_mem_take hl))
        have h2 : (ls.take i).length ≤ 100 := by rw [List.length_take]; omega
        have h3 : (ls.take i).length * (1000 + 1) ≤ 100 * 1001 := Nat.mul_le_mul h2 (Nat.le_refl _)
        omega
      have hrw := own_kept HROW.out HK.out hrb (by decide)
      have hcl := World.ownsRow.cellAt hrw i (by show i < ls.length * 1; omega)
      rw [List.getElem?_map, hgi] at hcl
      have hcl2 : wr.cell? ⟨rb, i, none⟩ = some (.string ⟨(ls[i]).toArray⟩) := hcl
      clear hcl hrw hgi
      generalize ls[i] = l at hml htk hcl2
      go_wp2_with fail
      refine (write_str B b _ ⟨l.toArray⟩ wr HBF.out (Nat.le_trans hB HBE.out.size) (by rw [sz_mk, List.length_append]; omega)).mono ?_
      rintro e w2 ⟨rfl, h2, b2, k2⟩
      have HI2 := hid h2
      have HB2 := hid (HBE.out.trans b2)
      have HK2 := hid (Lib.OthersKept.trans HK.out k2)
      clear h2 b2 k2 hcl2
      go_wp2_with fail
      refine (write_str B b _ ⟨#[10]⟩ w2 HI2.out (Nat.le_trans hB HB2.out.size) (by show _ + 1 ≤ 2000000; simp only [List.length_append]; omega)).mono ?_
      rintro e w3 ⟨rfl, h3, b3, k3⟩
      have HI3 := hid h3
      have HB3 := hid (HB2.out.trans b3)
      have HK3 := hid (Lib.OthersKept.trans HK2.out k3)
      clear h3 b3 k3
      go_wp2_with fail
      go_roundw
      case rel => exact ⟨i + 1, hlt, by go_num, by rw [htk.out]; simpa using HI3.out, HB3.out, HK3.out⟩
      case measure => simp [intOf]; omega
    · obtain rfl : i = ls.length := by omega
      have hbf := HBF.out
      rw [List.take_of_length_le (Nat.le_refl _)] at hbf
      have HX := hid hbf
      clear hbf
      go_wp2_with fail
      go_end0
      exact ⟨rfl, HX.out, HBE.out, HK.out⟩
theorem htm_prints (w : World) (b k base : Nat) (bs : List UInt8) (sl el : Int) (v : Sl) (ls : List (List UInt8)) (hb : w.heap.size ≤ b) (hblk : Blk w k 372 #[.int .i64 sl, .int .i64 el, v.v]) (hrow : w.ownsRow base 9 1 v.v v.n (ls.map lineV)) (hvn : v.n = ls.length) (h0 : 0 < ls.length) (hbl : bs.length ≤ 900000) (hlen : ∀ l ∈ ls, l.length ≤ 1000) (hn : ls.length ≤ 100) : Prints w b bs (htmV k) (htmOut ls) := by
  refine ⟨_, _, 357, .pointer (some ⟨k, 0, none⟩), rfl, fun W => by kernel_rfl, Go.Proofs.enters_of Tryz.func357 (by kernel_rfl) rfl, fun B' W hk hbf hB hlen' => ?_⟩
  have hkb : k ≠ b := by have := hblk.lt; omega
  have hrb : some b ≠ v.v.ownBlock := fun e => by have := ownLt hrow e; omega
  exact htmHTML_any B' b k base bs sl el v ls W (hblk.kept hk hkb (by decide)) (own_kept hrow hk hrb (by decide)) hvn h0 hbf hB hbl hlen hn
end Go.Proofs.YtmmijmhdbpldpaaGreatDoor
/- A block is laid upon the open ones, whatever is closed ahead of it. -/

namespace Go.Proofs.YtmmijmhdbpldpaaGreatDoor
open Go.RowKit
set_option maxRecDepth 20000 in
set_option maxHeartbeats 1600000 in
theorem addBlock_gen (B g : Nat) (r0 : PSr) (w0 : World) (u : TypeId) (x : Value) (T : PSr → List Ent → World → Prop) (hps0 : IsPS w0 g r0) (hl0 : -1 ≤ r0.lineDepth) (hl1 : r0.lineDepth ≤ 1000000)
    (hT : Calls Tryz.prog 55 #[.pointer (some ⟨g, 0, none⟩), .int .i64 (r0.lineDepth + 1)] w0 fun e w1 => e = .returned (.tuple #[]) ∧ ∃ r1 es, B ≤ w1.heap.size ∧ IsPS w1 g r1 ∧ IsStack w1 B r1.stack es ∧ es.length ≤ 1000000 ∧ T r1 es w1) :
    Calls Tryz.prog 52 #[.pointer (some ⟨g, 0, none⟩), .iface u x] w0 fun e w' => e = .returned (.tuple #[]) ∧
      ∃ r1 es w1 v, T r1 es w1 ∧ w1.heap.size ≤ w'.heap.size ∧ IsPS w' g { r1 with stack := v } ∧ IsStack w' B v (es ++ [⟨u, x, Sl.nil, r1.lineno, r1.lineno⟩]) ∧ (∀ k, v.v.ownBlock = some k → r1.stack.v.ownBlock = some k ∨ w1.heap.size ≤ k) ∧ Mod (fun k => k = g ∨ some k = r1.stack.v.ownBlock) w1 w' := by
  have d5 := hps0.c5
  have HTT := hid hT
  clear hT
  obtain ⟨i0, hi, hz0, hz1, hz2⟩ := info_parts info192
  go_enter Tryz.func52, Tryz.ntmps52
  go_wp2_with fail
  refine HTT.out.mono ?_
  rintro e w ⟨rfl, r, es, hB, hps, hst, hn, hTT⟩
  have HX := hid hTT
  clear hTT d5 HTT
  obtain ⟨hn0, hst⟩ := hst
  have c4 := hps.c4
  have HN := hid hn0
  have hn1 : r.stack.n ≤ 1000000 := by omega
  clear hn0
  have hcells : ∀ j u, ([.nilIface, .slice none 0 0, .int .i64 0, .int .i64 0] : List Value)[j]? = some u → (w.alloc (.cells #[.nilIface, .slice none 0 0, .int .i64 0, .int .i64 0] 121)).cell? ((⟨w.heap.size, 0, none⟩ : Addr).add j) = some u := by
    intro j u hj
    rw [Addr.add]
    have := (Blk.new w 121 #[.nilIface, .slice none 0 0, .int .i64 0, .int .i64 0]).cell j
    split
    · rename_i h0; subst h0; rw [this]; exact hj
    · rw [show (0 + j) = j from by omega, this]; simpa using hj
  have HCL := hid hcells
  clear hcells
  have hst' : w.ownsRow B 121 4 (.slice r.stack.a r.stack.n r.stack.c) r.stack.n (es.flatMap Ent.cells) := by have := hst; rw [← HN.out] at this; exact this
  have HST := hid hst'
  clear hst'
  go_wp2_with (at_builtin; refine wpList_append_own_at _ rfl (.tmp 16) (.tmp 18) 87 rfl B 121 i0 _ 4 56 Tryz.underlying87 hi hz0 hz1 hz2 rfl (by decide) (.slice r.stack.a r.stack.n r.stack.c) r.stack.n (es.flatMap Ent.cells) rfl (World.ownsRow.alloc HST.out _) ⟨w.heap.size, 0, none⟩ 1 1 [.nilIface, .slice none 0 0, .int .i64 0, .int .i64 0] rfl rfl HCL.out ?_ ?_ ?_ ?_ ?_)
  · intro u hu; simp at hu; rcases hu with rfl | rfl | rfl | rfl <;> rfl
  · unfold maxLen; omega
  · omega
  · simp; omega
  · intro v' w1 hown hgr hnil hat
    have hne : some g ≠ (Value.slice r.stack.a r.stack.n r.stack.c).ownBlock := own_ne hst hps (by decide)
    have hps1 : IsPS w1 g r := Blk.grown (Blk.alloc hps _) hgr hne
    have hne1 : some g ≠ v'.ownBlock := own_ne hown hps1 (by decide)
    obtain ⟨sb, cap', rfl, hsb⟩ : ∃ sb cap', v' = .slice (some ⟨sb, 0, none⟩) (r.stack.n + 1) cap' ∧ r.stack.n + 1 ≤ cap' := by
      rcases hown.2 with ⟨h1, h2⟩ | ⟨sb, cap', cur, h1, _, _, h2, _⟩
      · exact absurd h2 (by omega)
      · exact ⟨sb, cap', h1, h2⟩
    have hgs : g ≠ sb := fun e => hne1 (by simp [Value.ownBlock, e])
    have hsg : sb ≠ g := fun e => hgs e.symm
    have f1 := hps1.free
    have f2 := hown.frozenAt
    have d3 := hps1.c3
    have d4 := hps1.c4
    have hlen : (es.flatMap Ent.cells).length = r.stack.n * 4 := HST.out.1
    have k0 : w1.cell? ⟨sb, r.stack.n * 4, none⟩ = some .nilIface := by rw [hown.cellAt _ (by omega), List.getElem?_append_right (by omega), hlen]; simp
    have k2 : w1.cell? ⟨sb, r.stack.n * 4 + 2, none⟩ = some (.int .i64 0) := by rw [hown.cellAt _ (by omega), List.getElem?_append_right (by omega), hlen]; simp
    have k3 : w1.cell? ⟨sb, r.stack.n * 4 + 3, none⟩ = some (.int .i64 0) := by rw [hown.cellAt _ (by omega), List.getElem?_append_right (by omega), hlen]; simp
    have HLEN := hid hlen
    clear hlen
    have HO := hid hown
    have HG := hid hgr
    have HA := hid hat
    clear hown hgr hat
    go_wp2
    go_quiet (fail)
    go_wp2
    go_end0
    refine ⟨rfl, r, es, w, ⟨some ⟨sb, 0, none⟩, r.stack.n + 1, cap'⟩, HX.out, ?_, ((((hps1.set4 _ _ _).drewN nq).far hgs _).far hgs _).far hgs _, ⟨by simp [HN.out], ?_⟩, ?_, ?_⟩
    · have h1 := HG.out.size
      simp at h1
      simp [World.setCell]
      omega
    · have s0 := World.ownsRow.drewN (own_far (p := ⟨g, 4, none⟩) HO.out hne1 (Value.slice (some ⟨sb, 0, none⟩) (r.stack.n + 1) cap')) nq
      have s1 := (((s0.stored (r.stack.n * 4) (.iface u x)).1.stored (r.stack.n * 4 + 2) (.int .i64 r.lineno)).1.stored (r.stack.n * 4 + 2 + 1) (.int .i64 r.lineno)).1
      rw [set4_snoc _ _ _ _ _ _ _ _ _ HLEN.out] at s1
      rw [List.flatMap_append, List.length_append]
      simp only [List.length_cons, List.length_nil, ← HN.out]
      exact s1
    · intro k hk
      rcases HA.out with h | h
      · exact .inl (h ▸ hk)
      · have hk' : (Value.slice (some ⟨sb, 0, none⟩) (r.stack.n + 1) cap').ownBlock = some k := hk
        rw [h] at hk'; cases hk'; exact .inr (by omega)
    · have m0 : Mod (fun k => k = g ∨ some k = r.stack.v.ownBlock) w w1 := ((Mod.refl _ w).alloc _).grown HG.out (fun k hk => .inl (.inr hk.symm))
      have hsb' : (sb = g ∨ some sb = r.stack.v.ownBlock) ∨ w.heap.size ≤ sb := by
        rcases HA.out with h | h
        · exact .inl (.inr h)
        · have : sb = w.heap.size + 1 := by simpa [Value.ownBlock] using h
          exact .inr (by omega)
      exact ((((m0.setCell (.inl (.inl rfl)) _).drewN nq).setCell hsb' _).setCell hsb' _).setCell hsb' _

end Go.Proofs.YtmmijmhdbpldpaaGreatDoor
/- A block of HTML begins: the kinds that end with a text of their own. -/


namespace Go.Proofs.YtmmijmhdbpldpaaGreatDoor
open Go.RowKit
set_option maxHeartbeats 400000 in
theorem hasPrefix_b (s p : ByteArray) (w : World) (hs : s.size ≤ 1000000) (hp : p.size ≤ 1000) :
    Calls Tryz.prog 31 #[.string s, .string p] w fun e w' => e = .returned (.bool (p.data.toList.isPrefixOf s.data.toList)) ∧ w = w' := by
  have ZS := Lib.size_eq s
  have ZP := Lib.size_eq p
  by_cases h : p.size ≤ s.size
  · have hE : ((s.extract 0 p.size).toList == p.toList) = p.data.toList.isPrefixOf s.data.toList := by
      have := pre_cut (l := s.data.toList) (q := p.data.toList) (k := 0) (by rw [← ZS, ← ZP]; omega)
      rw [List.drop_zero] at this
      rw [← this, Lib.toList_data, Lib.toList_data, ByteArray.data_extract, Array.toList_extract, List.extract_eq_take_drop, ← ZP, List.drop_zero]
      rfl
    have HH := hid hE
    clear hE ZS ZP
    generalize p.data.toList.isPrefixOf s.data.toList = b at HH ⊢
    have hh := HH.out
    go_enter Tryz.func31, Tryz.ntmps31
    cases b
    all_goals
      go_wp2
      go_ret
      exact ⟨rfl, rfl⟩
  · have hE : p.data.toList.isPrefixOf s.data.toList = false := pre_short (by rw [← ZS, ← ZP]; omega)
    rw [hE]
    clear hE ZS ZP
    go_enter Tryz.func31, Tryz.ntmps31
    go_wp2
    go_ret
    exact ⟨rfl, rfl⟩
def StartP (B base : Nat) (S : Nat → World → Prop) (k : EndK) (s : ByteArray) (w w' : World) : Prop :=
  ∃ (hb : Nat) (v : Sl) (fn : Value) (w1 : World), S hb w1 ∧ w.heap.size ≤ hb ∧ IsHtm w' B hb k.blank v [.string s] fn k ∧ v.n = 1 ∧ Mod (fun j => j = hb) w1 w' ∧ Mod (fun j => j < base ∨ w.heap.size ≤ j) w w1 ∧ ∃ cs, Blk w1 hb 284 cs
theorem htmlEnd_S (s : ByteArray) (q : List UInt8) (eb : Nat) (w : World) (ht : s.size ≤ 100000) (hq0 : 0 < q.length) (hq : q.length ≤ 100) (h : w.cell? ⟨eb, 0, none⟩ = some (.string ⟨q.toArray⟩)) :
    Calls Tryz.prog 179 #[.string s, .pointer (some ⟨eb, 0, none⟩)] w fun e w' => e = .returned (.bool (hasB s.data.toList q)) ∧ w = w' := by
  obtain ⟨l, rfl⟩ : ∃ l : List UInt8, s = ⟨l.toArray⟩ := ⟨s.data.toList, by cases s; simp⟩
  rw [show (ByteArray.mk l.toArray).data.toList = l from by simp]
  exact htmlEnd_str l q eb w (by rw [sz_mk] at ht; exact ht) hq0 hq h
theorem isLetter_D (w : World) : Calls Tryz.prog 142 #[.int .u8 68] w fun e w' => e = .returned (.bool true) ∧ w = w' := by
  go_enter Tryz.func142, Tryz.ntmps142
  go_wp2_with fail
  go_ret
  exact ⟨rfl, rfl⟩
set_option maxRecDepth 20000 in
set_option maxHeartbeats 8000000 in
theorem startHTML_str2 (B base g pk : Nat) (S : Nat → World → Prop) (s : ByteArray) (nl : Int) (w : World) (hB : B ≤ base) (hbase : base ≤ pk) (hln : IsLn w pk 0 0 s nl) (hs : s.size ≤ 100) (ht : ∀ k, bt s k ≠ 9) (h60 : bt s 0 = 60) (hs0 : 0 < s.size) (hp0 : ([60, 33, 45, 45] : List UInt8).isPrefixOf s.data.toList = true)
    (hend : hasB s.data.toList [45, 45, 62] = false)
    (hadd : ∀ hb W, base ≤ hb → Below w.heap.size w W → Calls Tryz.prog 52 #[.pointer (some ⟨g, 0, none⟩), .iface 282 (.pointer (some ⟨hb, 0, none⟩))] W fun e w' => e = .returned (.tuple #[]) ∧ Mod (fun k => k < base) W w' ∧ S hb w') :
    Calls Tryz.prog 140 #[.pointer (some ⟨g, 0, none⟩), .pointer (some ⟨pk, 0, none⟩)] w fun e w' => e = .returned (.bool true) ∧ StartP B base S (.str [45, 45, 62]) s w w' := by
  obtain ⟨is0, his, hsz0, hsz1, hsz2⟩ := info_parts infoStrP
  have h0 := hln.c0
  have h1 := hln.c1
  have h2 := hln.c2
  have h3 := hln.c3
  have h4 := hln.c4
  have hmf : ∀ (fn : Fn) (first cap : Array Value) (w : World), (Instr.makeFunc fn first cap).run Tryz.prog w = .ok (.func fn first cap) w := fun _ _ _ _ => rfl
  have hb := get_bt s
  have e60 : (bt s 0 != 60) = false := by rw [h60]; rfl
  have HX : Hid (s.extract 0 s.size = s) := hid (by rw [extract_end]; simp)
  have HT := hid ht
  have HADD := hid hadd
  have HLN := hid hln
  have HEND := hid hend
  have hpl := Blk.lt hln
  clear ht hadd hln hend
  go_enter Tryz.func140, Tryz.ntmps140
  go_wp2_with fail
  go_step3
  go_wp2_with fail
  refine (trimSp_any _ 0 0 3 false 0 nl s _ (Blk.new' rfl) (by omega) (Nat.zero_le _) HT.out (by omega) (by omega)).mono ?_
  rintro e w1 ⟨j, a1, a2, a3, a4, a5, a6, hm⟩
  have hj : j = 0 := by
    rcases Nat.eq_or_lt_of_le a1 with h | h
    · exact h.symm
    · exact absurd (a4 0 (Nat.le_refl _) h) (by rw [h60]; decide)
  subst hj
  rcases a6 with ⟨rfl, _, hln1⟩ | ⟨_, hbad, _⟩
  case inr => omega
  have HB1 : Hid (Below w.heap.size w w1) := hid (((Below.refl _ w).alloc (Nat.le_refl _) _).trans (Mod.toBelow hm (by simp) (fun k hk h => by omega)))
  have HL1 := hid hln1
  have hz1 : w.heap.size < w1.heap.size := hln1.lt
  clear hm hln1 a1 a2 a3 a4 a5
  go_wp2_with fail
  refine (peek_any _ 0 0 nl _ _ HL1.out (by omega)).mono ?_
  rintro e w2 ⟨rfl, n2, rfl⟩
  go_wp2_with fail
  refine (string_any _ 0 0 nl _ _ (Blk.drewN HL1.out n2) (by omega) (Nat.zero_le _)).mono ?_
  rintro e w3 ⟨rfl, n3, rfl⟩
  rw [HX.out]
  go_wp2_with fail
  refine (hasPrefix_b s ⟨#[60, 33, 45, 45]⟩ _ (by omega) (by decide)).mono ?_
  rintro e w4 ⟨rfl, rfl⟩
  rw [show (ByteArray.mk #[60, 33, 45, 45]).data.toList.isPrefixOf s.data.toList = true from hp0]
  have HE0 : Hid (Blk (World.alloc (World.drewN w1 (n2 + n3)) (.cells #[.string ⟨#[]⟩] 9)) w1.heap.size 9 #[.string ⟨#[]⟩]) := hid (Blk.new' rfl)
  have q0 : (World.alloc (World.drewN w1 (n2 + n3)) (.cells #[.string ⟨#[]⟩] 9)).cell? ⟨w1.heap.size, 0, none⟩ = some (.string ⟨#[]⟩) := HE0.out.at_ 0 rfl
  have qf := HE0.out.free
  have HEQ : Hid (Blk ((World.alloc (World.drewN w1 (n2 + n3)) (.cells #[.string ⟨#[]⟩] 9)).setCell ⟨w1.heap.size, 0, none⟩ (.string ⟨#[45, 45, 62]⟩)) w1.heap.size 9 #[.string ⟨#[45, 45, 62]⟩]) := hid (by simpa using Blk.set_ HE0.out 0 (.string ⟨#[45, 45, 62]⟩))
  have HBQ : Hid (Below w.heap.size w ((World.alloc (World.drewN w1 (n2 + n3)) (.cells #[.string ⟨#[]⟩] 9)).setCell ⟨w1.heap.size, 0, none⟩ (.string ⟨#[45, 45, 62]⟩))) := hid (((below_drewN HB1.out (n2 + n3)).alloc (by simp; omega) _).setCell (p := ⟨w1.heap.size, 0, none⟩) (by show w.heap.size ≤ w1.heap.size; omega) _)
  have q1 : ((World.alloc (World.drewN w1 (n2 + n3)) (.cells #[.string ⟨#[]⟩] 9)).setCell ⟨w1.heap.size, 0, none⟩ (.string ⟨#[45, 45, 62]⟩)).cell? ⟨w1.heap.size, 0, none⟩ = some (.string ⟨#[45, 45, 62]⟩) := HEQ.out.at_ 0 rfl
  have hzq : ((World.alloc (World.drewN w1 (n2 + n3)) (.cells #[.string ⟨#[]⟩] 9)).setCell ⟨w1.heap.size, 0, none⟩ (.string ⟨#[45, 45, 62]⟩)).heap.size = w1.heap.size + 1 := by simp [World.setCell]
  go_wp2_with fail
  generalize World.setCell _ ⟨w1.heap.size, 0, none⟩ _ = wq at HEQ HBQ hzq q1 ⊢
  clear q0 qf HE0 HL1 q1
  refine (HADD.out (w1.heap.size + 1) _ (by omega) (HBQ.out.alloc HBQ.out.size _)).mono ?_
  rintro e w5 ⟨rfl, hm5, hS5⟩
  have HL5 : Hid (IsLn w5 pk 0 0 s nl) := hid ((Blk.alloc (HLN.out.mod (Mod.below' (S := fun _ => False) HBQ.out) (fun x => x)) _).mod hm5 (by show ¬ pk < base; omega))
  have HK5 : Hid (Blk w5 (w1.heap.size + 1) 284 #[.bool false, .slice none 0 0, (.func (Fn.func 179) #[] #[.pointer (some ⟨w1.heap.size, 0, none⟩)])]) := hid (Blk.mod (w := World.alloc wq (.cells #[.bool false, .slice none 0 0, (.func (Fn.func 179) #[] #[.pointer (some ⟨w1.heap.size, 0, none⟩)])] 284)) (Blk.new' hzq.symm) hm5 (by show ¬ w1.heap.size + 1 < base; omega))
  have HE5 : Hid (Blk w5 w1.heap.size 9 #[.string ⟨#[45, 45, 62]⟩]) := hid (Blk.mod (Blk.alloc HEQ.out _) hm5 (by show ¬ w1.heap.size < base; omega))
  have HM5 : Hid (Mod (fun j => j < base ∨ w.heap.size ≤ j) w w5) := hid ((Mod.below ((HBQ.out.alloc HBQ.out.size (.cells #[.bool false, .slice none 0 0, (.func (Fn.func 179) #[] #[.pointer (some ⟨w1.heap.size, 0, none⟩)])] 284))) (fun k _ h => .inr h)).trans hm5 (fun k _ h => .inl h))
  have HS5 := hid hS5
  have hz5 : w1.heap.size + 2 ≤ w5.heap.size := by have := hm5.size; simp at this; omega
  have hB5 : B ≤ w5.heap.size := by omega
  clear hm5 hS5 HEQ HBQ HADD HLN hmf
  have p1 : w5.cell? ⟨w1.heap.size + 1, 1, none⟩ = some (.slice none 0 0) := HK5.out.at_ 1 rfl
  have fp := HK5.out.free
  have p2 : ∀ k o, ((w5.drewN k).alloc o).cell? ⟨w1.heap.size + 1, 1, none⟩ = some (.slice none 0 0) := fun k o => (Blk.alloc (w := w5.drewN k) HK5.out o).at_ 1 rfl
  go_wp2_with fail
  go_region_law (first
      | (go_simp; go_at_call 126; refine (string_any pk 0 0 nl s _ ?_ (by omega) (Nat.zero_le _)).mono ?_; (· exact HL5.out); rintro e w6 ⟨rfl, n6, rfl⟩)
      | (refine step_append_lies _ rfl (.tmp 80) (.tmp 83) 33 (by rfl) B 9 is0 _ 1 16 Tryz.underlying33 his hsz0 hsz1 hsz2 rfl (by decide) (.slice none 0 0) 0 [] (by rfl) (World.ownsRow_nil _ _ _ _) ⟨w5.heap.size, 0, none⟩ 1 1 [.string s] (by rfl) rfl (World.news_of_block (heap_alloc_new _ _)) (by intro v hv; simp at hv; subst hv; rfl) (by omega) (by unfold maxLen; omega) (by omega) (by simp; omega) (w5.heap.size + 1) (by simp) ?_
         intro g2 cap2 w7 hown7 hgr7 hat7 hlt7
         have hp7 : Blk w7 (w1.heap.size + 1) 284 #[.bool false, .slice none 0 0, (.func (Fn.func 179) #[] #[.pointer (some ⟨w1.heap.size, 0, none⟩)])] := Blk.grown (Blk.alloc (w := World.drewN w5 _) HK5.out _) hgr7 (by simp [Value.ownBlock])
         have q7 : w7.cell? ⟨w1.heap.size + 1, 1, none⟩ = some (.slice none 0 0) := hp7.at_ 1 rfl
         have fq := hp7.free))
  all_goals
    have HK7 := hid (show Blk (w7.setCell ⟨w1.heap.size + 1, 1, none⟩ (.slice (some ⟨g2, 0, none⟩) 1 cap2)) (w1.heap.size + 1) 284 #[.bool false, .slice (some ⟨g2, 0, none⟩) 1 cap2, (.func (Fn.func 179) #[] #[.pointer (some ⟨w1.heap.size, 0, none⟩)])] from by simpa using Blk.set_ hp7 1 (.slice (some ⟨g2, 0, none⟩) 1 cap2))
    have HE7 : Hid (Blk (w7.setCell ⟨w1.heap.size + 1, 1, none⟩ (.slice (some ⟨g2, 0, none⟩) 1 cap2)) w1.heap.size 9 #[.string ⟨#[45, 45, 62]⟩]) := hid (Blk.far (Blk.grown (Blk.alloc (w := World.drewN w5 _) HE5.out _) hgr7 (by simp [Value.ownBlock])) (p := ⟨w1.heap.size + 1, 1, none⟩) (by show w1.heap.size ≠ w1.heap.size + 1; omega) _)
    have HO7 : Hid (World.ownsRow (w7.setCell ⟨w1.heap.size + 1, 1, none⟩ (.slice (some ⟨g2, 0, none⟩) 1 cap2)) B 9 1 (.slice (some ⟨g2, 0, none⟩) 1 cap2) 1 [.string s]) := hid (by
      exact own_far hown7 (p := ⟨w1.heap.size + 1, 1, none⟩) (own_ne hown7 hp7 (by decide)) _)
    have HM7 : Hid (Mod (fun j => j = w1.heap.size + 1) w5 (w7.setCell ⟨w1.heap.size + 1, 1, none⟩ (.slice (some ⟨g2, 0, none⟩) 1 cap2))) := hid ((Mod.grown ((Mod.drewN (Mod.refl (fun j => j = w1.heap.size + 1) w5) _).alloc _) hgr7 (fun k hk => by simp [Value.ownBlock] at hk)).setCell (p := ⟨w1.heap.size + 1, 1, none⟩) (.inl rfl) _)
    have hg7 : g2 = w5.heap.size + 1 := by
      rcases hat7 with h | h
      · cases h
      · exact h
    clear hown7 hgr7 hat7 hlt7 hp7 q7 fq p1 p2 fp
    generalize World.setCell w7 ⟨w1.heap.size + 1, 1, none⟩ _ = wc at HK7 HE7 HO7 HM7 ⊢
    have q2 : wc.cell? ⟨w1.heap.size + 1, 2, none⟩ = some (.func (Fn.func 179) #[] #[.pointer (some ⟨w1.heap.size, 0, none⟩)]) := HK7.out.at_ 2 rfl
    go_wp2_with fail
    refine (htmlEnd_S s [45, 45, 62] w1.heap.size wc (by omega) (by decide) (by decide) (HE7.out.at_ 0 rfl)).mono ?_
    rintro e w8 ⟨rfl, rfl⟩
    rw [HEND.out]
    go_wp2_with fail
    all_goals (try rw [Exit.noGoto_ret])
    go_ret
    exact ⟨rfl, w1.heap.size + 1, ⟨some ⟨g2, 0, none⟩, 1, cap2⟩, (.func (Fn.func 179) #[] #[.pointer (some ⟨w1.heap.size, 0, none⟩)]), w5, HS5.out, by omega, ⟨HK7.out, HO7.out, by omega, w1.heap.size, rfl, HE7.out, by omega, fun e => by
      have h1 : g2 = w1.heap.size := by simpa [Value.ownBlock] using e
      omega⟩, rfl, HM7.out, HM5.out, _, HK5.out⟩
set_option maxRecDepth 20000 in
set_option maxHeartbeats 8000000 in
theorem startHTML_str3 (B base g pk : Nat) (S : Nat → World → Prop) (s : ByteArray) (nl : Int) (w : World) (hB : B ≤ base) (hbase : base ≤ pk) (hln : IsLn w pk 0 0 s nl) (hs : s.size ≤ 100) (ht : ∀ k, bt s k ≠ 9) (h60 : bt s 0 = 60) (hs0 : 0 < s.size) (hp0 : ([60, 33, 45, 45] : List UInt8).isPrefixOf s.data.toList = false) (hp1 : ([60, 63] : List UInt8).isPrefixOf s.data.toList = true)
    (hend : hasB s.data.toList [63, 62] = false)
    (hadd : ∀ hb W, base ≤ hb → Below w.heap.size w W → Calls Tryz.prog 52 #[.pointer (some ⟨g, 0, none⟩), .iface 282 (.pointer (some ⟨hb, 0, none⟩))] W fun e w' => e = .returned (.tuple #[]) ∧ Mod (fun k => k < base) W w' ∧ S hb w') :
    Calls Tryz.prog 140 #[.pointer (some ⟨g, 0, none⟩), .pointer (some ⟨pk, 0, none⟩)] w fun e w' => e = .returned (.bool true) ∧ StartP B base S (.str [63, 62]) s w w' := by
  obtain ⟨is0, his, hsz0, hsz1, hsz2⟩ := info_parts infoStrP
  have h0 := hln.c0
  have h1 := hln.c1
  have h2 := hln.c2
  have h3 := hln.c3
  have h4 := hln.c4
  have hmf : ∀ (fn : Fn) (first cap : Array Value) (w : World), (Instr.makeFunc fn first cap).run Tryz.prog w = .ok (.func fn first cap) w := fun _ _ _ _ => rfl
  have hb := get_bt s
  have e60 : (bt s 0 != 60) = false := by rw [h60]; rfl
  have HX : Hid (s.extract 0 s.size = s) := hid (by rw [extract_end]; simp)
  have HT := hid ht
  have HADD := hid hadd
  have HLN := hid hln
  have HEND := hid hend
  have hpl := Blk.lt hln
  clear ht hadd hln hend
  go_enter Tryz.func140, Tryz.ntmps140
  go_wp2_with fail
  go_step3
  go_wp2_with fail
  refine (trimSp_any _ 0 0 3 false 0 nl s _ (Blk.new' rfl) (by omega) (Nat.zero_le _) HT.out (by omega) (by omega)).mono ?_
  rintro e w1 ⟨j, a1, a2, a3, a4, a5, a6, hm⟩
  have hj : j = 0 := by
    rcases Nat.eq_or_lt_of_le a1 with h | h
    · exact h.symm
    · exact absurd (a4 0 (Nat.le_refl _) h) (by rw [h60]; decide)
  subst hj
  rcases a6 with ⟨rfl, _, hln1⟩ | ⟨_, hbad, _⟩
  case inr => omega
  have HB1 : Hid (Below w.heap.size w w1) := hid (((Below.refl _ w).alloc (Nat.le_refl _) _).trans (Mod.toBelow hm (by simp) (fun k hk h => by omega)))
  have HL1 := hid hln1
  have hz1 : w.heap.size < w1.heap.size := hln1.lt
  clear hm hln1 a1 a2 a3 a4 a5
  go_wp2_with fail
  refine (peek_any _ 0 0 nl _ _ HL1.out (by omega)).mono ?_
  rintro e w2 ⟨rfl, n2, rfl⟩
  go_wp2_with fail
  refine (string_any _ 0 0 nl _ _ (Blk.drewN HL1.out n2) (by omega) (Nat.zero_le _)).mono ?_
  rintro e w3 ⟨rfl, n3, rfl⟩
  rw [HX.out]
  go_wp2_with fail
  refine (hasPrefix_b s ⟨#[60, 33, 45, 45]⟩ _ (by omega) (by decide)).mono ?_
  rintro e w4 ⟨rfl, rfl⟩
  rw [show (ByteArray.mk #[60, 33, 45, 45]).data.toList.isPrefixOf s.data.toList = false from hp0]
  go_wp2_with fail
  refine (hasPrefix_b s ⟨#[60, 63]⟩ _ (by omega) (by decide)).mono ?_
  rintro e w4 ⟨rfl, rfl⟩
  rw [show (ByteArray.mk #[60, 63]).data.toList.isPrefixOf s.data.toList = true from hp1]
  have HE0 : Hid (Blk (World.alloc (World.drewN w1 (n2 + n3)) (.cells #[.string ⟨#[]⟩] 9)) w1.heap.size 9 #[.string ⟨#[]⟩]) := hid (Blk.new' rfl)
  have q0 : (World.alloc (World.drewN w1 (n2 + n3)) (.cells #[.string ⟨#[]⟩] 9)).cell? ⟨w1.heap.size, 0, none⟩ = some (.string ⟨#[]⟩) := HE0.out.at_ 0 rfl
  have qf := HE0.out.free
  have HEQ : Hid (Blk ((World.alloc (World.drewN w1 (n2 + n3)) (.cells #[.string ⟨#[]⟩] 9)).setCell ⟨w1.heap.size, 0, none⟩ (.string ⟨#[63, 62]⟩)) w1.heap.size 9 #[.string ⟨#[63, 62]⟩]) := hid (by simpa using Blk.set_ HE0.out 0 (.string ⟨#[63, 62]⟩))
  have HBQ : Hid (Below w.heap.size w ((World.alloc (World.drewN w1 (n2 + n3)) (.cells #[.string ⟨#[]⟩] 9)).setCell ⟨w1.heap.size, 0, none⟩ (.string ⟨#[63, 62]⟩))) := hid (((below_drewN HB1.out (n2 + n3)).alloc (by simp; omega) _).setCell (p := ⟨w1.heap.size, 0, none⟩) (by show w.heap.size ≤ w1.heap.size; omega) _)
  have q1 : ((World.alloc (World.drewN w1 (n2 + n3)) (.cells #[.string ⟨#[]⟩] 9)).setCell ⟨w1.heap.size, 0, none⟩ (.string ⟨#[63, 62]⟩)).cell? ⟨w1.heap.size, 0, none⟩ = some (.string ⟨#[63, 62]⟩) := HEQ.out.at_ 0 rfl
  have hzq : ((World.alloc (World.drewN w1 (n2 + n3)) (.cells #[.string ⟨#[]⟩] 9)).setCell ⟨w1.heap.size, 0, none⟩ (.string ⟨#[63, 62]⟩)).heap.size = w1.heap.size + 1 := by simp [World.setCell]
  go_wp2_with fail
  generalize World.setCell _ ⟨w1.heap.size, 0, none⟩ _ = wq at HEQ HBQ hzq q1 ⊢
  clear q0 qf HE0 HL1 q1
  refine (HADD.out (w1.heap.size + 1) _ (by omega) (HBQ.out.alloc HBQ.out.size _)).mono ?_
  rintro e w5 ⟨rfl, hm5, hS5⟩
  have HL5 : Hid (IsLn w5 pk 0 0 s nl) := hid ((Blk.alloc (HLN.out.mod (Mod.below' (S := fun _ => False) HBQ.out) (fun x => x)) _).mod hm5 (by show ¬ pk < base; omega))
  have HK5 : Hid (Blk w5 (w1.heap.size + 1) 284 #[.bool false, .slice none 0 0, (.func (Fn.func 179) #[] #[.pointer (some ⟨w1.heap.size, 0, none⟩)])]) := hid (Blk.mod (w := World.alloc wq (.cells #[.bool false, .slice none 0 0, (.func (Fn.func 179) #[] #[.pointer (some ⟨w1.heap.size, 0, none⟩)])] 284)) (Blk.new' hzq.symm) hm5 (by show ¬ w1.heap.size + 1 < base; omega))
  have HE5 : Hid (Blk w5 w1.heap.size 9 #[.string ⟨#[63, 62]⟩]) := hid (Blk.mod (Blk.alloc HEQ.out _) hm5 (by show ¬ w1.heap.size < base; omega))
  have HM5 : Hid (Mod (fun j => j < base ∨ w.heap.size ≤ j) w w5) := hid ((Mod.below ((HBQ.out.alloc HBQ.out.size (.cells #[.bool false, .slice none 0 0, (.func (Fn.func 179) #[] #[.pointer (some ⟨w1.heap.size, 0, none⟩)])] 284))) (fun k _ h => .inr h)).trans hm5 (fun k _ h => .inl h))
  have HS5 := hid hS5
  have hz5 : w1.heap.size + 2 ≤ w5.heap.size := by have := hm5.size; simp at this; omega
  have hB5 : B ≤ w5.heap.size := by omega
  clear hm5 hS5 HEQ HBQ HADD HLN hmf
  have p1 : w5.cell? ⟨w1.heap.size + 1, 1, none⟩ = some (.slice none 0 0) := HK5.out.at_ 1 rfl
  have fp := HK5.out.free
  have p2 : ∀ k o, ((w5.drewN k).alloc o).cell? ⟨w1.heap.size + 1, 1, none⟩ = some (.slice none 0 0) := fun k o => (Blk.alloc (w := w5.drewN k) HK5.out o).at_ 1 rfl
  go_wp2_with fail
  go_region_law (first
      | (go_simp; go_at_call 126; refine (string_any pk 0 0 nl s _ ?_ (by omega) (Nat.zero_le _)).mono ?_; (· exact HL5.out); rintro e w6 ⟨rfl, n6, rfl⟩)
      | (refine step_append_lies _ rfl (.tmp 80) (.tmp 83) 33 (by rfl) B 9 is0 _ 1 16 Tryz.underlying33 his hsz0 hsz1 hsz2 rfl (by decide) (.slice none 0 0) 0 [] (by rfl) (World.ownsRow_nil _ _ _ _) ⟨w5.heap.size, 0, none⟩ 1 1 [.string s] (by rfl) rfl (World.news_of_block (heap_alloc_new _ _)) (by intro v hv; simp at hv; subst hv; rfl) (by omega) (by unfold maxLen; omega) (by omega) (by simp; omega) (w5.heap.size + 1) (by simp) ?_
         intro g2 cap2 w7 hown7 hgr7 hat7 hlt7
         have hp7 : Blk w7 (w1.heap.size + 1) 284 #[.bool false, .slice none 0 0, (.func (Fn.func 179) #[] #[.pointer (some ⟨w1.heap.size, 0, none⟩)])] := Blk.grown (Blk.alloc (w := World.drewN w5 _) HK5.out _) hgr7 (by simp [Value.ownBlock])
         have q7 : w7.cell? ⟨w1.heap.size + 1, 1, none⟩ = some (.slice none 0 0) := hp7.at_ 1 rfl
         have fq := hp7.free))
  all_goals
    have HK7 := hid (show Blk (w7.setCell ⟨w1.heap.size + 1, 1, none⟩ (.slice (some ⟨g2, 0, none⟩) 1 cap2)) (w1.heap.size + 1) 284 #[.bool false, .slice (some ⟨g2, 0, none⟩) 1 cap2, (.func (Fn.func 179) #[] #[.pointer (some ⟨w1.heap.size, 0, none⟩)])] from by simpa using Blk.set_ hp7 1 (.slice (some ⟨g2, 0, none⟩) 1 cap2))
    have HE7 : Hid (Blk (w7.setCell ⟨w1.heap.size + 1, 1, none⟩ (.slice (some ⟨g2, 0, none⟩) 1 cap2)) w1.heap.size 9 #[.string ⟨#[63, 62]⟩]) := hid (Blk.far (Blk.grown (Blk.alloc (w := World.drewN w5 _) HE5.out _) hgr7 (by simp [Value.ownBlock])) (p := ⟨w1.heap.size + 1, 1, none⟩) (by show w1.heap.size ≠ w1.heap.size + 1; omega) _)
    have HO7 : Hid (World.ownsRow (w7.setCell ⟨w1.heap.size + 1, 1, none⟩ (.slice (some ⟨g2, 0, none⟩) 1 cap2)) B 9 1 (.slice (some ⟨g2, 0, none⟩) 1 cap2) 1 [.string s]) := hid (by
      exact own_far hown7 (p := ⟨w1.heap.size + 1, 1, none⟩) (own_ne hown7 hp7 (by decide)) _)
    have HM7 : Hid (Mod (fun j => j = w1.heap.size + 1) w5 (w7.setCell ⟨w1.heap.size + 1, 1, none⟩ (.slice (some ⟨g2, 0, none⟩) 1 cap2))) := hid ((Mod.grown ((Mod.drewN (Mod.refl (fun j => j = w1.heap.size + 1) w5) _).alloc _) hgr7 (fun k hk => by simp [Value.ownBlock] at hk)).setCell (p := ⟨w1.heap.size + 1, 1, none⟩) (.inl rfl) _)
    have hg7 : g2 = w5.heap.size + 1 := by
      rcases hat7 with h | h
      · cases h
      · exact h
    clear hown7 hgr7 hat7 hlt7 hp7 q7 fq p1 p2 fp
    generalize World.setCell w7 ⟨w1.heap.size + 1, 1, none⟩ _ = wc at HK7 HE7 HO7 HM7 ⊢
    have q2 : wc.cell? ⟨w1.heap.size + 1, 2, none⟩ = some (.func (Fn.func 179) #[] #[.pointer (some ⟨w1.heap.size, 0, none⟩)]) := HK7.out.at_ 2 rfl
    go_wp2_with fail
    refine (htmlEnd_S s [63, 62] w1.heap.size wc (by omega) (by decide) (by decide) (HE7.out.at_ 0 rfl)).mono ?_
    rintro e w8 ⟨rfl, rfl⟩
    rw [HEND.out]
    go_wp2_with fail
    all_goals (try rw [Exit.noGoto_ret])
    go_ret
    exact ⟨rfl, w1.heap.size + 1, ⟨some ⟨g2, 0, none⟩, 1, cap2⟩, (.func (Fn.func 179) #[] #[.pointer (some ⟨w1.heap.size, 0, none⟩)]), w5, HS5.out, by omega, ⟨HK7.out, HO7.out, by omega, w1.heap.size, rfl, HE7.out, by omega, fun e => by
      have h1 : g2 = w1.heap.size := by simpa [Value.ownBlock] using e
      omega⟩, rfl, HM7.out, HM5.out, _, HK5.out⟩
set_option maxRecDepth 20000 in
set_option maxHeartbeats 8000000 in
theorem startHTML_str4 (B base g pk : Nat) (S : Nat → World → Prop) (s : ByteArray) (nl : Int) (w : World) (hB : B ≤ base) (hbase : base ≤ pk) (hln : IsLn w pk 0 0 s nl) (hs : s.size ≤ 100) (ht : ∀ k, bt s k ≠ 9) (h60 : bt s 0 = 60) (hs0 : 0 < s.size) (hp0 : ([60, 33, 45, 45] : List UInt8).isPrefixOf s.data.toList = false) (hp1 : ([60, 63] : List UInt8).isPrefixOf s.data.toList = false) (hp2 : ([60, 33, 91, 67, 68, 65, 84, 65, 91] : List UInt8).isPrefixOf s.data.toList = false) (hp3 : ([60, 33] : List UInt8).isPrefixOf s.data.toList = true) (hp2b : bt s 2 = 68) (hp2c : 3 ≤ s.size)
    (hend : hasB s.data.toList [62] = false)
    (hadd : ∀ hb W, base ≤ hb → Below w.heap.size w W → Calls Tryz.prog 52 #[.pointer (some ⟨g, 0, none⟩), .iface 282 (.pointer (some ⟨hb, 0, none⟩))] W fun e w' => e = .returned (.tuple #[]) ∧ Mod (fun k => k < base) W w' ∧ S hb w') :
    Calls Tryz.prog 140 #[.pointer (some ⟨g, 0, none⟩), .pointer (some ⟨pk, 0, none⟩)] w fun e w' => e = .returned (.bool true) ∧ StartP B base S (.str [62]) s w w' := by
  obtain ⟨is0, his, hsz0, hsz1, hsz2⟩ := info_parts infoStrP
  have h0 := hln.c0
  have h1 := hln.c1
  have h2 := hln.c2
  have h3 := hln.c3
  have h4 := hln.c4
  have hmf : ∀ (fn : Fn) (first cap : Array Value) (w : World), (Instr.makeFunc fn first cap).run Tryz.prog w = .ok (.func fn first cap) w := fun _ _ _ _ => rfl
  have hb := get_bt s
  have e60 : (bt s 0 != 60) = false := by rw [h60]; rfl
  have HX : Hid (s.extract 0 s.size = s) := hid (by rw [extract_end]; simp)
  have HT := hid ht
  have HADD := hid hadd
  have HLN := hid hln
  have HEND := hid hend
  have hpl := Blk.lt hln
  clear ht hadd hln hend
  go_enter Tryz.func140, Tryz.ntmps140
  go_wp2_with fail
  go_step3
  go_wp2_with fail
  refine (trimSp_any _ 0 0 3 false 0 nl s _ (Blk.new' rfl) (by omega) (Nat.zero_le _) HT.out (by omega) (by omega)).mono ?_
  rintro e w1 ⟨j, a1, a2, a3, a4, a5, a6, hm⟩
  have hj : j = 0 := by
    rcases Nat.eq_or_lt_of_le a1 with h | h
    · exact h.symm
    · exact absurd (a4 0 (Nat.le_refl _) h) (by rw [h60]; decide)
  subst hj
  rcases a6 with ⟨rfl, _, hln1⟩ | ⟨_, hbad, _⟩
  case inr => omega
  have HB1 : Hid (Below w.heap.size w w1) := hid (((Below.refl _ w).alloc (Nat.le_refl _) _).trans (Mod.toBelow hm (by simp) (fun k hk h => by omega)))
  have HL1 := hid hln1
  have hz1 : w.heap.size < w1.heap.size := hln1.lt
  clear hm hln1 a1 a2 a3 a4 a5
  go_wp2_with fail
  refine (peek_any _ 0 0 nl _ _ HL1.out (by omega)).mono ?_
  rintro e w2 ⟨rfl, n2, rfl⟩
  go_wp2_with fail
  refine (string_any _ 0 0 nl _ _ (Blk.drewN HL1.out n2) (by omega) (Nat.zero_le _)).mono ?_
  rintro e w3 ⟨rfl, n3, rfl⟩
  rw [HX.out]
  go_wp2_with fail
  refine (hasPrefix_b s ⟨#[60, 33, 45, 45]⟩ _ (by omega) (by decide)).mono ?_
  rintro e w4 ⟨rfl, rfl⟩
  rw [show (ByteArray.mk #[60, 33, 45, 45]).data.toList.isPrefixOf s.data.toList = false from hp0]
  go_wp2_with fail
  refine (hasPrefix_b s ⟨#[60, 63]⟩ _ (by omega) (by decide)).mono ?_
  rintro e w4 ⟨rfl, rfl⟩
  rw [show (ByteArray.mk #[60, 63]).data.toList.isPrefixOf s.data.toList = false from hp1]
  go_wp2_with fail
  refine (hasPrefix_b s ⟨#[60, 33, 91, 67, 68, 65, 84, 65, 91]⟩ _ (by omega) (by decide)).mono ?_
  rintro e w4 ⟨rfl, rfl⟩
  rw [show (ByteArray.mk #[60, 33, 91, 67, 68, 65, 84, 65, 91]).data.toList.isPrefixOf s.data.toList = false from hp2]
  go_wp2_with fail
  refine (hasPrefix_b s ⟨#[60, 33]⟩ _ (by omega) (by decide)).mono ?_
  rintro e w4 ⟨rfl, rfl⟩
  rw [show (ByteArray.mk #[60, 33]).data.toList.isPrefixOf s.data.toList = true from hp3]
  have hb68 : bt s 2 = 68 := hp2b
  go_wp2_with fail
  refine (isLetter_D _).mono ?_
  rintro e w4 ⟨rfl, rfl⟩
  have HE0 : Hid (Blk (World.alloc (World.drewN w1 (n2 + n3)) (.cells #[.string ⟨#[]⟩] 9)) w1.heap.size 9 #[.string ⟨#[]⟩]) := hid (Blk.new' rfl)
  have q0 : (World.alloc (World.drewN w1 (n2 + n3)) (.cells #[.string ⟨#[]⟩] 9)).cell? ⟨w1.heap.size, 0, none⟩ = some (.string ⟨#[]⟩) := HE0.out.at_ 0 rfl
  have qf := HE0.out.free
  have HEQ : Hid (Blk ((World.alloc (World.drewN w1 (n2 + n3)) (.cells #[.string ⟨#[]⟩] 9)).setCell ⟨w1.heap.size, 0, none⟩ (.string ⟨#[62]⟩)) w1.heap.size 9 #[.string ⟨#[62]⟩]) := hid (by simpa using Blk.set_ HE0.out 0 (.string ⟨#[62]⟩))
  have HBQ : Hid (Below w.heap.size w ((World.alloc (World.drewN w1 (n2 + n3)) (.cells #[.string ⟨#[]⟩] 9)).setCell ⟨w1.heap.size, 0, none⟩ (.string ⟨#[62]⟩))) := hid (((below_drewN HB1.out (n2 + n3)).alloc (by simp; omega) _).setCell (p := ⟨w1.heap.size, 0, none⟩) (by show w.heap.size ≤ w1.heap.size; omega) _)
  have q1 : ((World.alloc (World.drewN w1 (n2 + n3)) (.cells #[.string ⟨#[]⟩] 9)).setCell ⟨w1.heap.size, 0, none⟩ (.string ⟨#[62]⟩)).cell? ⟨w1.heap.size, 0, none⟩ = some (.string ⟨#[62]⟩) := HEQ.out.at_ 0 rfl
  have hzq : ((World.alloc (World.drewN w1 (n2 + n3)) (.cells #[.string ⟨#[]⟩] 9)).setCell ⟨w1.heap.size, 0, none⟩ (.string ⟨#[62]⟩)).heap.size = w1.heap.size + 1 := by simp [World.setCell]
  go_wp2_with fail
  generalize World.setCell _ ⟨w1.heap.size, 0, none⟩ _ = wq at HEQ HBQ hzq q1 ⊢
  clear q0 qf HE0 HL1 q1
  refine (HADD.out (w1.heap.size + 1) _ (by omega) (HBQ.out.alloc HBQ.out.size _)).mono ?_
  rintro e w5 ⟨rfl, hm5, hS5⟩
  have HL5 : Hid (IsLn w5 pk 0 0 s nl) := hid ((Blk.alloc (HLN.out.mod (Mod.below' (S := fun _ => False) HBQ.out) (fun x => x)) _).mod hm5 (by show ¬ pk < base; omega))
  have HK5 : Hid (Blk w5 (w1.heap.size + 1) 284 #[.bool false, .slice none 0 0, (.func (Fn.func 179) #[] #[.pointer (some ⟨w1.heap.size, 0, none⟩)])]) := hid (Blk.mod (w := World.alloc wq (.cells #[.bool false, .slice none 0 0, (.func (Fn.func 179) #[] #[.pointer (some ⟨w1.heap.size, 0, none⟩)])] 284)) (Blk.new' hzq.symm) hm5 (by show ¬ w1.heap.size + 1 < base; omega))
  have HE5 : Hid (Blk w5 w1.heap.size 9 #[.string ⟨#[62]⟩]) := hid (Blk.mod (Blk.alloc HEQ.out _) hm5 (by show ¬ w1.heap.size < base; omega))
  have HM5 : Hid (Mod (fun j => j < base ∨ w.heap.size ≤ j) w w5) := hid ((Mod.below ((HBQ.out.alloc HBQ.out.size (.cells #[.bool false, .slice none 0 0, (.func (Fn.func 179) #[] #[.pointer (some ⟨w1.heap.size, 0, none⟩)])] 284))) (fun k _ h => .inr h)).trans hm5 (fun k _ h => .inl h))
  have HS5 := hid hS5
  have hz5 : w1.heap.size + 2 ≤ w5.heap.size := by have := hm5.size; simp at this; omega
  have hB5 : B ≤ w5.heap.size := by omega
  clear hm5 hS5 HEQ HBQ HADD HLN hmf
  have p1 : w5.cell? ⟨w1.heap.size + 1, 1, none⟩ = some (.slice none 0 0) := HK5.out.at_ 1 rfl
  have fp := HK5.out.free
  have p2 : ∀ k o, ((w5.drewN k).alloc o).cell? ⟨w1.heap.size + 1, 1, none⟩ = some (.slice none 0 0) := fun k o => (Blk.alloc (w := w5.drewN k) HK5.out o).at_ 1 rfl
  go_wp2_with fail
  go_region_law (first
      | (go_simp; go_at_call 126; refine (string_any pk 0 0 nl s _ ?_ (by omega) (Nat.zero_le _)).mono ?_; (· exact HL5.out); rintro e w6 ⟨rfl, n6, rfl⟩)
      | (refine step_append_lies _ rfl (.tmp 80) (.tmp 83) 33 (by rfl) B 9 is0 _ 1 16 Tryz.underlying33 his hsz0 hsz1 hsz2 rfl (by decide) (.slice none 0 0) 0 [] (by rfl) (World.ownsRow_nil _ _ _ _) ⟨w5.heap.size, 0, none⟩ 1 1 [.string s] (by rfl) rfl (World.news_of_block (heap_alloc_new _ _)) (by intro v hv; simp at hv; subst hv; rfl) (by omega) (by unfold maxLen; omega) (by omega) (by simp; omega) (w5.heap.size + 1) (by simp) ?_
         intro g2 cap2 w7 hown7 hgr7 hat7 hlt7
         have hp7 : Blk w7 (w1.heap.size + 1) 284 #[.bool false, .slice none 0 0, (.func (Fn.func 179) #[] #[.pointer (some ⟨w1.heap.size, 0, none⟩)])] := Blk.grown (Blk.alloc (w := World.drewN w5 _) HK5.out _) hgr7 (by simp [Value.ownBlock])
         have q7 : w7.cell? ⟨w1.heap.size + 1, 1, none⟩ = some (.slice none 0 0) := hp7.at_ 1 rfl
         have fq := hp7.free))
  all_goals
    have HK7 := hid (show Blk (w7.setCell ⟨w1.heap.size + 1, 1, none⟩ (.slice (some ⟨g2, 0, none⟩) 1 cap2)) (w1.heap.size + 1) 284 #[.bool false, .slice (some ⟨g2, 0, none⟩) 1 cap2, (.func (Fn.func 179) #[] #[.pointer (some ⟨w1.heap.size, 0, none⟩)])] from by simpa using Blk.set_ hp7 1 (.slice (some ⟨g2, 0, none⟩) 1 cap2))
    have HE7 : Hid (Blk (w7.setCell ⟨w1.heap.size + 1, 1, none⟩ (.slice (some ⟨g2, 0, none⟩) 1 cap2)) w1.heap.size 9 #[.string ⟨#[62]⟩]) := hid (Blk.far (Blk.grown (Blk.alloc (w := World.drewN w5 _) HE5.out _) hgr7 (by simp [Value.ownBlock])) (p := ⟨w1.heap.size + 1, 1, none⟩) (by show w1.heap.size ≠ w1.heap.size + 1; omega) _)
    have HO7 : Hid (World.ownsRow (w7.setCell ⟨w1.heap.size + 1, 1, none⟩ (.slice (some ⟨g2, 0, none⟩) 1 cap2)) B 9 1 (.slice (some ⟨g2, 0, none⟩) 1 cap2) 1 [.string s]) := hid (by
      exact own_far hown7 (p := ⟨w1.heap.size + 1, 1, none⟩) (own_ne hown7 hp7 (by decide)) _)
    have HM7 : Hid (Mod (fun j => j = w1.heap.size + 1) w5 (w7.setCell ⟨w1.heap.size + 1, 1, none⟩ (.slice (some ⟨g2, 0, none⟩) 1 cap2))) := hid ((Mod.grown ((Mod.drewN (Mod.refl (fun j => j = w1.heap.size + 1) w5) _).alloc _) hgr7 (fun k hk => by simp [Value.ownBlock] at hk)).setCell (p := ⟨w1.heap.size + 1, 1, none⟩) (.inl rfl) _)
    have hg7 : g2 = w5.heap.size + 1 := by
      rcases hat7 with h | h
      · cases h
      · exact h
    clear hown7 hgr7 hat7 hlt7 hp7 q7 fq p1 p2 fp
    generalize World.setCell w7 ⟨w1.heap.size + 1, 1, none⟩ _ = wc at HK7 HE7 HO7 HM7 ⊢
    have q2 : wc.cell? ⟨w1.heap.size + 1, 2, none⟩ = some (.func (Fn.func 179) #[] #[.pointer (some ⟨w1.heap.size, 0, none⟩)]) := HK7.out.at_ 2 rfl
    go_wp2_with fail
    refine (htmlEnd_S s [62] w1.heap.size wc (by omega) (by decide) (by decide) (HE7.out.at_ 0 rfl)).mono ?_
    rintro e w8 ⟨rfl, rfl⟩
    rw [HEND.out]
    go_wp2_with fail
    all_goals (try rw [Exit.noGoto_ret])
    go_ret
    exact ⟨rfl, w1.heap.size + 1, ⟨some ⟨g2, 0, none⟩, 1, cap2⟩, (.func (Fn.func 179) #[] #[.pointer (some ⟨w1.heap.size, 0, none⟩)]), w5, HS5.out, by omega, ⟨HK7.out, HO7.out, by omega, w1.heap.size, rfl, HE7.out, by omega, fun e => by
      have h1 : g2 = w1.heap.size := by simpa [Value.ownBlock] using e
      omega⟩, rfl, HM7.out, HM5.out, _, HK5.out⟩
set_option maxRecDepth 20000 in
set_option maxHeartbeats 8000000 in
theorem startHTML_str5 (B base g pk : Nat) (S : Nat → World → Prop) (s : ByteArray) (nl : Int) (w : World) (hB : B ≤ base) (hbase : base ≤ pk) (hln : IsLn w pk 0 0 s nl) (hs : s.size ≤ 100) (ht : ∀ k, bt s k ≠ 9) (h60 : bt s 0 = 60) (hs0 : 0 < s.size) (hp0 : ([60, 33, 45, 45] : List UInt8).isPrefixOf s.data.toList = false) (hp1 : ([60, 63] : List UInt8).isPrefixOf s.data.toList = false) (hp2 : ([60, 33, 91, 67, 68, 65, 84, 65, 91] : List UInt8).isPrefixOf s.data.toList = true)
    (hend : hasB s.data.toList [93, 93, 62] = false)
    (hadd : ∀ hb W, base ≤ hb → Below w.heap.size w W → Calls Tryz.prog 52 #[.pointer (some ⟨g, 0, none⟩), .iface 282 (.pointer (some ⟨hb, 0, none⟩))] W fun e w' => e = .returned (.tuple #[]) ∧ Mod (fun k => k < base) W w' ∧ S hb w') :
    Calls Tryz.prog 140 #[.pointer (some ⟨g, 0, none⟩), .pointer (some ⟨pk, 0, none⟩)] w fun e w' => e = .returned (.bool true) ∧ StartP B base S (.str [93, 93, 62]) s w w' := by
  obtain ⟨is0, his, hsz0, hsz1, hsz2⟩ := info_parts infoStrP
  have h0 := hln.c0
  have h1 := hln.c1
  have h2 := hln.c2
  have h3 := hln.c3
  have h4 := hln.c4
  have hmf : ∀ (fn : Fn) (first cap : Array Value) (w : World), (Instr.makeFunc fn first cap).run Tryz.prog w = .ok (.func fn first cap) w := fun _ _ _ _ => rfl
  have hb := get_bt s
  have e60 : (bt s 0 != 60) = false := by rw [h60]; rfl
  have HX : Hid (s.extract 0 s.size = s) := hid (by rw [extract_end]; simp)
  have HT := hid ht
  have HADD := hid hadd
  have HLN := hid hln
  have HEND := hid hend
  have hpl := Blk.lt hln
  clear ht hadd hln hend
  go_enter Tryz.func140, Tryz.ntmps140
  go_wp2_with fail
  go_step3
  go_wp2_with fail
  refine (trimSp_any _ 0 0 3 false 0 nl s _ (Blk.new' rfl) (by omega) (Nat.zero_le _) HT.out (by omega) (by omega)).mono ?_
  rintro e w1 ⟨j, a1, a2, a3, a4, a5, a6, hm⟩
  have hj : j = 0 := by
    rcases Nat.eq_or_lt_of_le a1 with h | h
    · exact h.symm
    · exact absurd (a4 0 (Nat.le_refl _) h) (by rw [h60]; decide)
  subst hj
  rcases a6 with ⟨rfl, _, hln1⟩ | ⟨_, hbad, _⟩
  case inr => omega
  have HB1 : Hid (Below w.heap.size w w1) := hid (((Below.refl _ w).alloc (Nat.le_refl _) _).trans (Mod.toBelow hm (by simp) (fun k hk h => by omega)))
  have HL1 := hid hln1
  have hz1 : w.heap.size < w1.heap.size := hln1.lt
  clear hm hln1 a1 a2 a3 a4 a5
  go_wp2_with fail
  refine (peek_any _ 0 0 nl _ _ HL1.out (by omega)).mono ?_
  rintro e w2 ⟨rfl, n2, rfl⟩
  go_wp2_with fail
  refine (string_any _ 0 0 nl _ _ (Blk.drewN HL1.out n2) (by omega) (Nat.zero_le _)).mono ?_
  rintro e w3 ⟨rfl, n3, rfl⟩
  rw [HX.out]
  go_wp2_with fail
  refine (hasPrefix_b s ⟨#[60, 33, 45, 45]⟩ _ (by omega) (by decide)).mono ?_
  rintro e w4 ⟨rfl, rfl⟩
  rw [show (ByteArray.mk #[60, 33, 45, 45]).data.toList.isPrefixOf s.data.toList = false from hp0]
  go_wp2_with fail
  refine (hasPrefix_b s ⟨#[60, 63]⟩ _ (by omega) (by decide)).mono ?_
  rintro e w4 ⟨rfl, rfl⟩
  rw [show (ByteArray.mk #[60, 63]).data.toList.isPrefixOf s.data.toList = false from hp1]
  go_wp2_with fail
  refine (hasPrefix_b s ⟨#[60, 33, 91, 67, 68, 65, 84, 65, 91]⟩ _ (by omega) (by decide)).mono ?_
  rintro e w4 ⟨rfl, rfl⟩
  rw [show (ByteArray.mk #[60, 33, 91, 67, 68, 65, 84, 65, 91]).data.toList.isPrefixOf s.data.toList = true from hp2]
  have HE0 : Hid (Blk (World.alloc (World.drewN w1 (n2 + n3)) (.cells #[.string ⟨#[]⟩] 9)) w1.heap.size 9 #[.string ⟨#[]⟩]) := hid (Blk.new' rfl)
  have q0 : (World.alloc (World.drewN w1 (n2 + n3)) (.cells #[.string ⟨#[]⟩] 9)).cell? ⟨w1.heap.size, 0, none⟩ = some (.string ⟨#[]⟩) := HE0.out.at_ 0 rfl
  have qf := HE0.out.free
  have HEQ : Hid (Blk ((World.alloc (World.drewN w1 (n2 + n3)) (.cells #[.string ⟨#[]⟩] 9)).setCell ⟨w1.heap.size, 0, none⟩ (.string ⟨#[93, 93, 62]⟩)) w1.heap.size 9 #[.string ⟨#[93, 93, 62]⟩]) := hid (by simpa using Blk.set_ HE0.out 0 (.string ⟨#[93, 93, 62]⟩))
  have HBQ : Hid (Below w.heap.size w ((World.alloc (World.drewN w1 (n2 + n3)) (.cells #[.string ⟨#[]⟩] 9)).setCell ⟨w1.heap.size, 0, none⟩ (.string ⟨#[93, 93, 62]⟩))) := hid (((below_drewN HB1.out (n2 + n3)).alloc (by simp; omega) _).setCell (p := ⟨w1.heap.size, 0, none⟩) (by show w.heap.size ≤ w1.heap.size; omega) _)
  have q1 : ((World.alloc (World.drewN w1 (n2 + n3)) (.cells #[.string ⟨#[]⟩] 9)).setCell ⟨w1.heap.size, 0, none⟩ (.string ⟨#[93, 93, 62]⟩)).cell? ⟨w1.heap.size, 0, none⟩ = some (.string ⟨#[93, 93, 62]⟩) := HEQ.out.at_ 0 rfl
  have hzq : ((World.alloc (World.drewN w1 (n2 + n3)) (.cells #[.string ⟨#[]⟩] 9)).setCell ⟨w1.heap.size, 0, none⟩ (.string ⟨#[93, 93, 62]⟩)).heap.size = w1.heap.size + 1 := by simp [World.setCell]
  go_wp2_with fail
  generalize World.setCell _ ⟨w1.heap.size, 0, none⟩ _ = wq at HEQ HBQ hzq q1 ⊢
  clear q0 qf HE0 HL1 q1
  refine (HADD.out (w1.heap.size + 1) _ (by omega) (HBQ.out.alloc HBQ.out.size _)).mono ?_
  rintro e w5 ⟨rfl, hm5, hS5⟩
  have HL5 : Hid (IsLn w5 pk 0 0 s nl) := hid ((Blk.alloc (HLN.out.mod (Mod.below' (S := fun _ => False) HBQ.out) (fun x => x)) _).mod hm5 (by show ¬ pk < base; omega))
  have HK5 : Hid (Blk w5 (w1.heap.size + 1) 284 #[.bool false, .slice none 0 0, (.func (Fn.func 179) #[] #[.pointer (some ⟨w1.heap.size, 0, none⟩)])]) := hid (Blk.mod (w := World.alloc wq (.cells #[.bool false, .slice none 0 0, (.func (Fn.func 179) #[] #[.pointer (some ⟨w1.heap.size, 0, none⟩)])] 284)) (Blk.new' hzq.symm) hm5 (by show ¬ w1.heap.size + 1 < base; omega))
  have HE5 : Hid (Blk w5 w1.heap.size 9 #[.string ⟨#[93, 93, 62]⟩]) := hid (Blk.mod (Blk.alloc HEQ.out _) hm5 (by show ¬ w1.heap.size < base; omega))
  have HM5 : Hid (Mod (fun j => j < base ∨ w.heap.size ≤ j) w w5) := hid ((Mod.below ((HBQ.out.alloc HBQ.out.size (.cells #[.bool false, .slice none 0 0, (.func (Fn.func 179) #[] #[.pointer (some ⟨w1.heap.size, 0, none⟩)])] 284))) (fun k _ h => .inr h)).trans hm5 (fun k _ h => .inl h))
  have HS5 := hid hS5
  have hz5 : w1.heap.size + 2 ≤ w5.heap.size := by have := hm5.size; simp at this; omega
  have hB5 : B ≤ w5.heap.size := by omega
  clear hm5 hS5 HEQ HBQ HADD HLN hmf
  have p1 : w5.cell? ⟨w1.heap.size + 1, 1, none⟩ = some (.slice none 0 0) := HK5.out.at_ 1 rfl
  have fp := HK5.out.free
  have p2 : ∀ k o, ((w5.drewN k).alloc o).cell? ⟨w1.heap.size + 1, 1, none⟩ = some (.slice none 0 0) := fun k o => (Blk.alloc (w := w5.drewN k) HK5.out o).at_ 1 rfl
  go_wp2_with fail
  go_region_law (first
      | (go_simp; go_at_call 126; refine (string_any pk 0 0 nl s _ ?_ (by omega) (Nat.zero_le _)).mono ?_; (· exact HL5.out); rintro e w6 ⟨rfl, n6, rfl⟩)
      | (refine step_append_lies _ rfl (.tmp 80) (.tmp 83) 33 (by rfl) B 9 is0 _ 1 16 Tryz.underlying33 his hsz0 hsz1 hsz2 rfl (by decide) (.slice none 0 0) 0 [] (by rfl) (World.ownsRow_nil _ _ _ _) ⟨w5.heap.size, 0, none⟩ 1 1 [.string s] (by rfl) rfl (World.news_of_block (heap_alloc_new _ _)) (by intro v hv; simp at hv; subst hv; rfl) (by omega) (by unfold maxLen; omega) (by omega) (by simp; omega) (w5.heap.size + 1) (by simp) ?_
         intro g2 cap2 w7 hown7 hgr7 hat7 hlt7
         have hp7 : Blk w7 (w1.heap.size + 1) 284 #[.bool false, .slice none 0 0, (.func (Fn.func 179) #[] #[.pointer (some ⟨w1.heap.size, 0, none⟩)])] := Blk.grown (Blk.alloc (w := World.drewN w5 _) HK5.out _) hgr7 (by simp [Value.ownBlock])
         have q7 : w7.cell? ⟨w1.heap.size + 1, 1, none⟩ = some (.slice none 0 0) := hp7.at_ 1 rfl
         have fq := hp7.free))
  all_goals
    have HK7 := hid (show Blk (w7.setCell ⟨w1.heap.size + 1, 1, none⟩ (.slice (some ⟨g2, 0, none⟩) 1 cap2)) (w1.heap.size + 1) 284 #[.bool false, .slice (some ⟨g2, 0, none⟩) 1 cap2, (.func (Fn.func 179) #[] #[.pointer (some ⟨w1.heap.size, 0, none⟩)])] from by simpa using Blk.set_ hp7 1 (.slice (some ⟨g2, 0, none⟩) 1 cap2))
    have HE7 : Hid (Blk (w7.setCell ⟨w1.heap.size + 1, 1, none⟩ (.slice (some ⟨g2, 0, none⟩) 1 cap2)) w1.heap.size 9 #[.string ⟨#[93, 93, 62]⟩]) := hid (Blk.far (Blk.grown (Blk.alloc (w := World.drewN w5 _) HE5.out _) hgr7 (by simp [Value.ownBlock])) (p := ⟨w1.heap.size + 1, 1, none⟩) (by show w1.heap.size ≠ w1.heap.size + 1; omega) _)
    have HO7 : Hid (World.ownsRow (w7.setCell ⟨w1.heap.size + 1, 1, none⟩ (.slice (some ⟨g2, 0, none⟩) 1 cap2)) B 9 1 (.slice (some ⟨g2, 0, none⟩) 1 cap2) 1 [.string s]) := hid (by
      exact own_far hown7 (p := ⟨w1.heap.size + 1, 1, none⟩) (own_ne hown7 hp7 (by decide)) _)
    have HM7 : Hid (Mod (fun j => j = w1.heap.size + 1) w5 (w7.setCell ⟨w1.heap.size + 1, 1, none⟩ (.slice (some ⟨g2, 0, none⟩) 1 cap2))) := hid ((Mod.grown ((Mod.drewN (Mod.refl (fun j => j = w1.heap.size + 1) w5) _).alloc _) hgr7 (fun k hk => by simp [Value.ownBlock] at hk)).setCell (p := ⟨w1.heap.size + 1, 1, none⟩) (.inl rfl) _)
    have hg7 : g2 = w5.heap.size + 1 := by
      rcases hat7 with h | h
      · cases h
      · exact h
    clear hown7 hgr7 hat7 hlt7 hp7 q7 fq p1 p2 fp
    generalize World.setCell w7 ⟨w1.heap.size + 1, 1, none⟩ _ = wc at HK7 HE7 HO7 HM7 ⊢
    have q2 : wc.cell? ⟨w1.heap.size + 1, 2, none⟩ = some (.func (Fn.func 179) #[] #[.pointer (some ⟨w1.heap.size, 0, none⟩)]) := HK7.out.at_ 2 rfl
    go_wp2_with fail
    refine (htmlEnd_S s [93, 93, 62] w1.heap.size wc (by omega) (by decide) (by decide) (HE7.out.at_ 0 rfl)).mono ?_
    rintro e w8 ⟨rfl, rfl⟩
    rw [HEND.out]
    go_wp2_with fail
    all_goals (try rw [Exit.noGoto_ret])
    go_ret
    exact ⟨rfl, w1.heap.size + 1, ⟨some ⟨g2, 0, none⟩, 1, cap2⟩, (.func (Fn.func 179) #[] #[.pointer (some ⟨w1.heap.size, 0, none⟩)]), w5, HS5.out, by omega, ⟨HK7.out, HO7.out, by omega, w1.heap.size, rfl, HE7.out, by omega, fun e => by
      have h1 : g2 = w1.heap.size := by simpa [Value.ownBlock] using e
      omega⟩, rfl, HM7.out, HM5.out, _, HK5.out⟩
end Go.Proofs.YtmmijmhdbpldpaaGreatDoor
/- newHTML, where startHTML begins a block. -/


namespace Go.Proofs.YtmmijmhdbpldpaaGreatDoor
open Go.RowKit
def NewHtmP (B : Nat) (S : Nat → World → Prop) (k : EndK) (s : ByteArray) (w w' : World) : Prop :=
  ∃ (hb : Nat) (v : Sl) (fn : Value) (w1 : World), S hb w1 ∧ w.heap.size ≤ hb ∧ w1.heap.size ≤ w'.heap.size ∧ IsHtm w' B hb k.blank v [.string s] fn k ∧ v.n = 1 ∧ Mod (fun j => j = hb ∨ j = w.heap.size + 1) w1 w' ∧ Blk w1 (w.heap.size + 1) 104 #[.int .i64 0, .int .i64 0, .int .i64 0, .string ⟨#[]⟩, .int .u8 0] ∧ ∃ cs, Blk w1 hb 284 cs
set_option maxRecDepth 20000 in
set_option maxHeartbeats 1600000 in
theorem newHTML_yes (B g : Nat) (S : Nat → World → Prop) (k : EndK) (s : ByteArray) (nl : Int) (w : World)
    (hstart : ∀ W pk, Below w.heap.size w W → w.heap.size ≤ pk → IsLn W pk 0 0 s nl → Calls Tryz.prog 140 #[.pointer (some ⟨g, 0, none⟩), .pointer (some ⟨pk, 0, none⟩)] W fun e w' => e = .returned (.bool true) ∧ StartP B w.heap.size S k s W w') :
    Calls Tryz.prog 90 #[.pointer (some ⟨g, 0, none⟩), lnV 0 0 s nl] w fun e w' => e = .returned (.tuple #[lnV 0 0 ⟨#[]⟩ 0, .bool true]) ∧ NewHtmP B S k s w w' := by
  have HST := hid hstart
  clear hstart
  go_enter Tryz.func90, Tryz.ntmps90
  go_wp2_with fail
  refine (HST.out _ _ ?_ ?_ (Blk.new' (by simp))).mono ?_
  · exact (((Below.refl _ _).alloc (Nat.le_refl _) _).alloc (by simp) _).alloc (by simp; omega) _
  · omega
  rintro e w2 ⟨rfl, hb, v, fn, w1, hS, hhb, hh, hv, hm1, hm2, hbk⟩
  have hres0 : Blk w1 (w.heap.size + 1) 104 #[.int .i64 0, .int .i64 0, .int .i64 0, .string ⟨#[]⟩, .int .u8 0] := (Blk.alloc (Blk.new' (by simp)) _ : Blk _ (w.heap.size + 1) 104 #[.int .i64 0, .int .i64 0, .int .i64 0, .string ⟨#[]⟩, .int .u8 0]).mod hm2 (by simp; omega)
  have hne : w.heap.size + 1 ≠ hb := by simp at hhb; omega
  have hres := hres0.mod hm1 hne
  have hln : IsLn w2 w.heap.size 0 0 s nl := Blk.mod (Blk.mod (Blk.alloc (Blk.alloc (Blk.new' rfl) _) _) hm2 (by simp; omega)) hm1 (by simp at hhb; show ¬ w.heap.size = hb; omega)
  have c0 := hln.c0
  have c1 := hln.c1
  have c2 := hln.c2
  have c3 := hln.c3
  have c4 := hln.c4
  have r0 := hres.at_ 0 rfl
  have r1 := hres.at_ 1 rfl
  have r2 := hres.at_ 2 rfl
  have r3 := hres.at_ 3 rfl
  have r4 := hres.at_ 4 rfl
  have fr := hres.free
  have HS := hid hS
  have HH := hid hh
  have HM1 := hid hm1
  have HR := hid hres
  have HR0 := hid hres0
  have hhb2 : w.heap.size ≤ hb := by simp at hhb; omega
  clear hln hres hS hh hm1 hm2 HST hres0
  go_wp2_with fail
  have hln := hid (line_zero HR.out)
  have hmy : Hid (Mod (fun k => k = w.heap.size + 1) w2 _) := hid ((((((Mod.refl (fun k => k = w.heap.size + 1) w2).setCell (p := ⟨w.heap.size + 1, 0, none⟩) (.inl rfl) (.int .i64 0)).setCell (p := ⟨w.heap.size + 1, 1, none⟩) (.inl rfl) (.int .i64 0)).setCell (p := ⟨w.heap.size + 1, 2, none⟩) (.inl rfl) (.int .i64 0)).setCell (p := ⟨w.heap.size + 1, 3, none⟩) (.inl rfl) (.string ⟨#[]⟩)).setCell (p := ⟨w.heap.size + 1, 4, none⟩) (.inl rfl) (.int .u8 0))
  generalize World.setCell _ ⟨w.heap.size + 1, 4, none⟩ _ = wy at hln hmy ⊢
  have hl4 := hln.out
  have k0 := hl4.at_ 0 rfl
  have k1 := hl4.at_ 1 rfl
  have k2 := hl4.at_ 2 rfl
  have k3 := hl4.at_ 3 rfl
  have k4 := hl4.at_ 4 rfl
  clear hl4
  refine bodyPost_ret (by simp [results, Tryz.results90, go_sem, k0, k1, k2, k3, k4]; try rfl) rfl ?_
  obtain ⟨g1, g2, g3, g4⟩ := HH.out
  have hend : IsEndF wy B v.v.ownBlock fn k := by
    cases k with
    | non => exact g4
    | pre => exact g4
    | str q =>
      obtain ⟨ex, e1, e2, e3, e4⟩ := g4
      exact ⟨ex, e1, e2.mod hmy.out (Blk.ne_ e2 HR.out (by decide)), e3, e4⟩
  exact ⟨rfl, hb, v, fn, w1, HS.out, hhb2, Nat.le_trans HM1.out.size hmy.out.size, ⟨g1.mod hmy.out (fun e => hne e.symm), own_mod g2 hmy.out (fun q hq e => by subst e; exact own_ne g2 HR.out (by decide) hq.symm), g3, hend⟩, hv, (HM1.out.mono (fun _ _ h => .inl h)).trans hmy.out (fun _ _ h => .inr h), HR0.out, hbk⟩
end Go.Proofs.YtmmijmhdbpldpaaGreatDoor
