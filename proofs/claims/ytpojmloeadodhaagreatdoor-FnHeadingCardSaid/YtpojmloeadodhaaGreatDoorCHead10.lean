/- Texts of this proof, joined: A heading's starter takes its line, The library's contracts on strconv.Itoa, laid at this program, HTML of a heading. -/
import Derived.Test.YtpojmloeadodhaaGreatDoorCHead09
import Derived.Test.YtpojmloeadodhaaGreatDoorCHead07
import Derived.Shelf.Strconv.Itoa3
import Derived.Ground.NamesProg
import Derived.Test.YtpojmloeadodhaaGreatDoorProg
import Derived.Test.YtpojmloeadodhaaGreatDoorCHead08
import Derived.Test.YtpojmloeadodhaaGreatDoorCHead03
/- A heading's starter takes its line. -/



namespace Go.Proofs.YtpojmloeadodhaaGreatDoor
open Go.RowKit
/-- What stays of a heading's text: R is the text without spaces at its end, k bytes of it without signs # at its end. -/
def headC (R : List UInt8) (k : Nat) : List UInt8 := if trimR (R.take k) = R.take k ∧ R.take k ≠ [] then R else R.take k
structure HeadAt (s : ByteArray) (n : Nat) (R : List UInt8) (k : Nat) : Prop where
  size : s.size ≤ 100000
  n1 : 1 ≤ n
  n6 : n ≤ 6
  ns : n < s.size
  tab : ∀ j, bt s j ≠ 9
  h35 : ∀ j, j < n → bt s j = 35
  h32 : bt s n = 32
  text : trimR (s.data.toList.drop (n + 1)) = R
  kl : k ≤ R.length
  hash : ∀ j, k ≤ j → j < R.length → bt ⟨R.toArray⟩ j = 35
  stop : k = 0 ∨ bt ⟨R.toArray⟩ (k - 1) ≠ 35
def headV (hb : Nat) : Value := .iface 217 (.pointer (some ⟨hb, 0, none⟩))
def HeadP (B g : Nat) (r : PSr) (es : List Ent) (e0 : Ent) (bs ts : List Value) (n : Nat) (C : List UInt8) (w w' : World) : Prop :=
  ∃ (hb tb : Nat) (lt v : Sl), v.n = e0.inner.n + 1 ∧ IsPS w' g { r with texts := lt } ∧ IsStack w' B r.stack (es ++ [{ e0 with inner := v }]) ∧ w'.ownsRow B 55 1 v.v v.n (bs ++ [headV hb]) ∧
    Blk w' hb 220 #[.int .i64 r.lineno, .int .i64 r.lineno, .int .i64 n, .pointer (some ⟨tb, 0, none⟩), .string ⟨#[]⟩] ∧ Blk w' tb 94 #[.int .i64 r.lineno, .int .i64 r.lineno, .slice none 0 0, .string ⟨C.toArray⟩] ∧
    w'.ownsRow B 89 1 lt.v lt.n (ts ++ [.pointer (some ⟨tb, 0, none⟩)]) ∧ lt.n = r.texts.n + 1 ∧ w.heap.size ≤ hb ∧ w.heap.size ≤ tb ∧
    Mod (fun k => k = g ∨ some k = r.stack.v.ownBlock ∨ some k = e0.inner.v.ownBlock ∨ some k = r.texts.v.ownBlock) w w'
set_option maxRecDepth 20000 in
set_option maxHeartbeats 4000000 in
theorem newATX_yes (B g n k : Nat) (r : PSr) (es : List Ent) (e0 : Ent) (bs ts : List Value) (R : List UInt8) (nl : Int) (s : ByteArray) (w : World) (hB : B ≤ w.heap.size) (hps : IsPS w g r) (hst : IsStack w B r.stack (es ++ [e0])) (hd : r.lineDepth = es.length) (hn : es.length ≤ 1000000)
    (hin : w.ownsRow B 55 1 e0.inner.v e0.inner.n bs) (hm : e0.inner.n ≤ 1000000) (hrow : w.ownsRow B 89 1 r.texts.v r.texts.n ts) (hrn : r.texts.n ≤ 1000000) (hid0 : w.cell? ⟨r.parser, 0, none⟩ = some (.bool false)) (hpg : r.parser ≠ g) (hS : HeadAt s n R k) :
    Calls Tryz.prog 71 #[.pointer (some ⟨g, 0, none⟩), lnV 0 0 s nl] w fun e w' => e = .returned (.tuple #[lnV 0 0 ⟨#[]⟩ 0, .bool true]) ∧ HeadP B g r es e0 bs ts n (headC R k) w w' ∧ w.heap.size ≤ w'.heap.size ∧ ∀ lb cs, Blk w lb 87 cs → Blk w' lb 87 cs := by
  obtain ⟨hs, hn1, hn6, hns, htab, h35, h32, htext, hkl, hhash, hstop⟩ := hS
  have HTAB := hid htab
  have H35 := hid h35
  have HPS := hid hps
  have HST := hid hst
  have HIN := hid hin
  have HROW := hid hrow
  have HID0 := hid hid0
  have HPS0 := hid hps
  have HST0 := hid hst
  have HIN0 := hid hin
  have HROW0 := hid hrow
  have hRl : R.length ≤ 100000 := by
    rw [← htext]
    have h1 : (trimR (s.data.toList.drop (n + 1))).length ≤ (s.data.toList.drop (n + 1)).length := by
      unfold trimR
      rw [List.length_reverse]
      exact Nat.le_trans (List.dropWhile_sublist _).length_le (by rw [List.length_reverse]; exact Nat.le_refl _)
    rw [List.length_drop, ← Lib.size_eq] at h1
    omega
  have HTR := hid (fun W => show Calls Tryz.prog 114 #[.string (s.extract (n + 1) s.size)] W fun e w' => e = .returned (.string ⟨R.toArray⟩) ∧ W = w' from by
    have := trimRight_any (s.extract (n + 1) s.size) W (by simp; omega)
    rw [show (⟨(trimR (s.extract (n + 1) s.size).data.toList).toArray⟩ : ByteArray) = ⟨R.toArray⟩ from by rw [extract_end, ← htext]] at this
    exact this)
  have HTH := hid (fun W => show Calls Tryz.prog 115 #[.string ⟨R.toArray⟩, .string ⟨#[35]⟩] W fun e w' => e = .returned (.string ⟨(R.take k).toArray⟩) ∧ ∃ n, w' = W.drewN n from by
    have := trimHash_any ⟨R.toArray⟩ k W (by show R.toArray.size ≤ _; simpa using hRl) (by show k ≤ R.toArray.size; simpa using hkl) (fun j h1 h2 => hhash j h1 (by simpa using (show j < R.toArray.size from h2))) hstop
    rw [show (ByteArray.mk R.toArray).extract 0 k = ⟨(R.take k).toArray⟩ from by rw [extract_mk]; simp] at this
    exact this)
  have HTR2 := hid (fun W => show Calls Tryz.prog 114 #[.string ⟨(R.take k).toArray⟩] W fun e w' => e = .returned (.string ⟨(trimR (R.take k)).toArray⟩) ∧ W = w' from trimRight_any ⟨(R.take k).toArray⟩ W (bsz (by rw [List.length_take]; omega)))
  clear htab h35 hps hst hin hrow hid0 hhash hstop
  have hC : headC R k = if trimR (R.take k) = R.take k ∧ R.take k ≠ [] then R else R.take k := rfl
  generalize headC R k = C at hC ⊢
  have hTl : (R.take k).length ≤ 100000 := by rw [List.length_take]; omega
  generalize trimR (R.take k) = T2 at hC HTR2
  generalize R.take k = T at hC HTR2 HTH hTl
  have HC := hid hC
  clear hC htext hkl
  go_enter Tryz.func71, Tryz.ntmps71
  go_wp2_with fail
  refine (trimHeading_yes (w.heap.size + 1 + 1) (w.heap.size + 1 + 1 + 1) n nl 0 s _ ?_ ?_ (by omega) hs hn1 hn6 hns HTAB.out H35.out h32).mono ?_
  · exact Blk.alloc (Blk.new' (by simp)) _
  · exact Blk.new' (by simp)
  rintro e w1 ⟨rfl, hl1, hw1, hm1⟩
  have hgl := HPS.out.lt
  have hpl := World.block_lt_of_cell? w _ HID0.out
  have hps1 : IsPS w1 g r := (((((HPS.out.alloc _).alloc _).alloc _).alloc _)).mod hm1 (by show ¬ (g = w.heap.size + 1 + 1 ∨ g = w.heap.size + 1 + 1 + 1); omega)
  have hst1 : IsStack w1 B r.stack (es ++ [e0]) := (((((HST.out.alloc _).alloc _).alloc _).alloc _)).mod hm1 (fun k hk e => by have := ownLt HST.out.2 hk.symm; omega)
  have hin1 : w1.ownsRow B 55 1 e0.inner.v e0.inner.n bs := own_mod (World.ownsRow.alloc (World.ownsRow.alloc (World.ownsRow.alloc (World.ownsRow.alloc HIN.out _) _) _) _) hm1 (fun k hk e => by have := ownLt HIN.out hk.symm; omega)
  have hrow1 : w1.ownsRow B 89 1 r.texts.v r.texts.n ts := own_mod (World.ownsRow.alloc (World.ownsRow.alloc (World.ownsRow.alloc (World.ownsRow.alloc HROW.out _) _) _) _) hm1 (fun k hk e => by have := ownLt HROW.out hk.symm; omega)
  have hr1 : Blk w1 (w.heap.size + 1) 87 #[.int .i64 0, .int .i64 0, .int .i64 0, .string ⟨#[]⟩, .int .u8 0] := (Blk.alloc (Blk.alloc (Blk.new' (by simp)) _) _ : Blk _ (w.heap.size + 1) 87 #[.int .i64 0, .int .i64 0, .int .i64 0, .string ⟨#[]⟩, .int .u8 0]).mod hm1 (by show ¬ (w.heap.size + 1 = w.heap.size + 1 + 1 ∨ w.heap.size + 1 = w.heap.size + 1 + 1 + 1); omega)
  have hb4 : Below w.heap.size w w1 := (((((Below.refl _ w).alloc (Nat.le_refl _) _).alloc (by simp) _).alloc (by simp; omega) _).alloc (by simp; omega) _).trans (Mod.toBelow hm1 (by simp; omega) (fun k hk e => by omega))
  have hB1 : B ≤ w1.heap.size := Nat.le_trans hB hb4.size
  have hid1 : w1.cell? ⟨r.parser, 0, none⟩ = some (.bool false) := (hb4.cell hpl).trans HID0.out
  have HP1 := hid hps1
  have HS1 := hid hst1
  have HI1 := hid hin1
  have HT1 := hid hrow1
  have HR1 := hid hr1
  have HL1 := hid hl1
  have HW1 := hid hw1
  have HB4 := hid hb4
  have HID1 := hid hid1
  clear hps1 hst1 hin1 hrow1 hr1 hl1 hw1 hb4 hm1 hid1 HPS HST HIN HROW HID0 HTAB H35
  go_wp2_with fail
  refine (string_any (w.heap.size + 1 + 1) (n + 1) 0 nl s _ HL1.out (by omega) (by omega)).mono ?_
  rintro e w2 ⟨rfl, n2, rfl⟩
  go_wp2_with fail
  refine (HTR.out _).mono ?_
  rintro e w3 ⟨rfl, rfl⟩
  go_wp2_with fail
  refine (HTH.out _).mono ?_
  rintro e w3 ⟨rfl, n3, rfl⟩
  go_wp2_with fail
  refine (HTR2.out _).mono ?_
  rintro e w3 ⟨rfl, rfl⟩
  have hpa : Hid (IsPS (w1.drewN (n2 + n3)) g r) := hid HP1.out
  have hsa : Hid (IsStack (w1.drewN (n2 + n3)) B r.stack (es ++ [e0])) := hid HS1.out
  have hia : Hid (World.ownsRow (w1.drewN (n2 + n3)) B 55 1 e0.inner.v e0.inner.n bs) := hid HI1.out
  have hta : Hid (World.ownsRow (w1.drewN (n2 + n3)) B 89 1 r.texts.v r.texts.n ts) := hid HT1.out
  have hra : Hid (Blk (w1.drewN (n2 + n3)) (w.heap.size + 1) 87 #[.int .i64 0, .int .i64 0, .int .i64 0, .string ⟨#[]⟩, .int .u8 0]) := hid HR1.out
  have hwa : Hid (Blk (w1.drewN (n2 + n3)) (w.heap.size + 1 + 1 + 1) 3 #[.int .i64 n]) := hid HW1.out
  have hba : Hid (Below w.heap.size w (w1.drewN (n2 + n3))) := hid (below_drewN HB4.out (n2 + n3))
  have hda : Hid (World.cell? (w1.drewN (n2 + n3)) ⟨r.parser, 0, none⟩ = some (.bool false)) := hid HID1.out
  generalize World.drewN w1 (n2 + n3) = wa at hpa hsa hia hta hra hwa hba hda ⊢
  clear HP1 HS1 HI1 HT1 HR1 HL1 HW1 HB4 HID1 hB1
  have c3 := hpa.out.c3
  have c0 := hpa.out.c0
  have hd0 := hda.out
  have hw0 := hwa.out.at_ 0 rfl
  have hgwa : g < wa.heap.size := hpa.out.lt
  have hgwn : ¬ g = wa.heap.size := by omega
  have hwwa : w.heap.size + 1 + 1 + 1 < wa.heap.size := hwa.out.lt
  have hwwn : ¬ w.heap.size + 1 + 1 + 1 = wa.heap.size := by omega
  have hpwa : r.parser < wa.heap.size := World.block_lt_of_cell? wa _ hda.out
  by_cases h1 : T2 = T
  · by_cases h2 : T = []
    · obtain rfl : C = [] := by rw [HC.out, if_neg (fun h => h.2 h2)]; exact h2
      subst h2
      subst h1
      go_wp2_with fail
      go_region
      go_wp2_with fail
      have hXp : Hid (IsPS (World.drew (World.alloc wa (.cells #[.int .i64 r.lineno, .int .i64 r.lineno] 92))) g r) := hid (hpa.out.alloc _)
      have hXs : Hid (IsStack (World.drew (World.alloc wa (.cells #[.int .i64 r.lineno, .int .i64 r.lineno] 92))) B r.stack (es ++ [e0])) := hid (hsa.out.alloc _)
      have hXi : Hid (World.ownsRow (World.drew (World.alloc wa (.cells #[.int .i64 r.lineno, .int .i64 r.lineno] 92))) B 55 1 e0.inner.v e0.inner.n bs) := hid (World.ownsRow.alloc hia.out _)
      have hXt : Hid (World.ownsRow (World.drew (World.alloc wa (.cells #[.int .i64 r.lineno, .int .i64 r.lineno] 92))) B 89 1 r.texts.v r.texts.n ts) := hid (World.ownsRow.alloc hta.out _)
      have hXr : Hid (Blk (World.drew (World.alloc wa (.cells #[.int .i64 r.lineno, .int .i64 r.lineno] 92))) (w.heap.size + 1) 87 #[.int .i64 0, .int .i64 0, .int .i64 0, .string ⟨#[]⟩, .int .u8 0]) := hid (hra.out.alloc _)
      have hXw : Hid (Blk (World.drew (World.alloc wa (.cells #[.int .i64 r.lineno, .int .i64 r.lineno] 92))) (w.heap.size + 1 + 1 + 1) 3 #[.int .i64 n]) := hid (hwa.out.alloc _)
      have hXq : Hid (Blk (World.drew (World.alloc wa (.cells #[.int .i64 r.lineno, .int .i64 r.lineno] 92))) wa.heap.size 92 #[.int .i64 r.lineno, .int .i64 r.lineno]) := hid (Blk.new wa _ _)
      have hXb : Hid (Below w.heap.size w (World.drew (World.alloc wa (.cells #[.int .i64 r.lineno, .int .i64 r.lineno] 92)))) := hid (((hba.out.alloc hba.out.size _) : Below w.heap.size w (World.alloc wa _)).drew)
      generalize World.drew (World.alloc wa (.cells #[.int .i64 r.lineno, .int .i64 r.lineno] 92)) = xa at hXp hXs hXi hXt hXr hXw hXq hXb ⊢
      clear c3 c0 hd0 hw0 hpa hsa hia hta hra hwa hba hda
      have hw0 := hXw.out.at_ 0 rfl
      have hq0 := hXq.out.at_ 0 rfl
      have hq1 := hXq.out.at_ 1 rfl
      have hBx : B ≤ xa.heap.size := Nat.le_trans hB hXb.out.size
      go_region_law (first
        | (go_simp ; go_at_call 119 ; refine (newText_any B g r r.lineno r.lineno _ ts (World.drew xa) hBx hXp.out hXt.out hrn).mono ?_ ; rintro e w5 ⟨tb, lt, rfl, htb, hbt, hp5, hrow5, hln5, hm5⟩ ; have hs5 : Hid (IsStack w5 B r.stack (es ++ [e0])) := hid (IsStack.mod (w := World.drew xa) hXs.out hm5 (fun k hk e => Or.elim e (fun e => by subst e; exact own_ne hXs.out.2 hXp.out (by decide) hk.symm) (fun e => ownApart hXs.out.2 hXt.out (by decide) hk e.symm))) ; have hi5 : Hid (World.ownsRow w5 B 55 1 e0.inner.v e0.inner.n bs) := hid (own_mod (w := World.drew xa) hXi.out hm5 (fun k hk e => Or.elim e (fun e => by subst e; exact own_ne hXi.out hXp.out (by decide) hk.symm) (fun e => ownApart hXi.out hXt.out (by decide) hk e.symm))) ; have hw5 := (Blk.mod (w := World.drew xa) hXw.out hm5 (fun e => Or.elim e (fun e => by omega) (fun e => own_ne hXt.out hXw.out (by decide) e))).at_ 0 rfl ; have hr5 := hid (Blk.mod (w := World.drew xa) hXr.out hm5 (fun e => Or.elim e (fun e => by omega) (fun e => own_ne hXt.out hXr.out (by decide) e))) ; have hq5 := Blk.mod (w := World.drew xa) hXq.out hm5 (fun e => Or.elim e (fun e => by omega) (fun e => own_ne hXt.out hXq.out (by decide) e)) ; have hq50 := hq5.at_ 0 rfl ; have hq51 := hq5.at_ 1 rfl ; have hp5' := hid hp5 ; have hm5' := hid hm5 ; have hbt' := hid hbt ; have hrow5' := hid hrow5 ; have hB5 : B ≤ w5.heap.size := Nat.le_trans hBx hm5.size ; clear hp5 hm5 hbt hrow5 hq5)
        | (go_simp ; go_at_call 118 ; refine (doneBlock_top B g { r with texts := lt } es e0 _ _ _ bs ?_ ?_ ?_ hd hn ?_ hm).mono ?_ ; (· simp; omega) ; (· exact IsPS.alloc hp5'.out _) ; (· exact IsStack.alloc hs5.out _) ; (· exact World.ownsRow.alloc hi5.out _) ; rintro e w6 ⟨rfl, hdone⟩))
      all_goals
        obtain ⟨v, hv, hps6, hst6, hin6, hmod⟩ := hdone
        have ha6 : Mod (fun k => some k = r.stack.v.ownBlock ∨ some k = e0.inner.v.ownBlock) w5 w6 := Mod.trans ((Mod.refl (fun k => some k = r.stack.v.ownBlock ∨ some k = e0.inner.v.ownBlock) w5).alloc (.cells #[.int .i64 r.lineno, .int .i64 r.lineno, .int .i64 n, .pointer (some ⟨tb, 0, none⟩), .string ⟨#[]⟩] 220)) hmod (fun _ _ h => h)
        have hr6 := Blk.mod hr5.out ha6 (fun h => Or.elim h (own_ne hs5.out.2 hr5.out (by decide)) (own_ne hi5.out hr5.out (by decide)))
        have ht6 := Blk.mod hbt'.out ha6 (fun h => Or.elim h (own_ne hs5.out.2 hbt'.out (by decide)) (own_ne hi5.out hbt'.out (by decide)))
        have hh6 : Blk w6 w5.heap.size 220 #[.int .i64 r.lineno, .int .i64 r.lineno, .int .i64 n, .pointer (some ⟨tb, 0, none⟩), .string ⟨#[]⟩] := Blk.mod (Blk.new' (w := w5) rfl) hmod (fun h => Or.elim h (fun e => absurd (own_lt hs5.out.2 e) (by omega)) (fun e => absurd (own_lt hi5.out e) (by omega)))
        have hl6 := own_mod hrow5'.out ha6 (fun k hk e => Or.elim e (fun e => ownApart hs5.out.2 hrow5'.out (by decide) e.symm hk) (fun e => ownApart hi5.out hrow5'.out (by decide) e.symm hk))
        have hm6 : Mod (fun k => k = g ∨ some k = r.stack.v.ownBlock ∨ some k = e0.inner.v.ownBlock ∨ some k = r.texts.v.ownBlock) w w6 := Mod.trans (Mod.trans (Mod.below' (S := (fun k => k = g ∨ some k = r.stack.v.ownBlock ∨ some k = e0.inner.v.ownBlock ∨ some k = r.texts.v.ownBlock)) (hXb.out.drew)) hm5'.out (fun k _ h => Or.elim h (fun e => .inl e) (fun e => .inr (.inr (.inr e))))) ha6 (fun k _ h => Or.elim h (fun h => .inr (.inl h)) (fun h => .inr (.inr (.inl h))))
        have hsz5 : w.heap.size ≤ w5.heap.size := Nat.le_trans hXb.out.size hm5'.out.size
        have r0 := hr6.at_ 0 rfl
        have r1 := hr6.at_ 1 rfl
        have r2 := hr6.at_ 2 rfl
        have r3 := hr6.at_ 3 rfl
        have r4 := hr6.at_ 4 rfl
        have fr := hr6.free
        have HR6 := hid hr6
        have HM6 := hid hm6
        have HT6 := hid ht6
        have HH6 := hid hh6
        have HL6 := hid hl6
        have HP6 := hid hps6
        have HS6 := hid hst6
        have HI6 := hid hin6
        clear hr6 hm6 ht6 hh6 hl6 hps6 hst6 hin6 hmod ha6
        repeat (first | go_skip | go_guarded | go_step)
        have hln := hid (line_zero HR6.out)
        have hmy : Hid (Mod (fun k => k = w.heap.size + 1) w6 _) := hid ((((((Mod.refl (fun k => k = w.heap.size + 1) w6).setCell (p := ⟨w.heap.size + 1, 0, none⟩) (.inl rfl) (.int .i64 0)).setCell (p := ⟨w.heap.size + 1, 1, none⟩) (.inl rfl) (.int .i64 0)).setCell (p := ⟨w.heap.size + 1, 2, none⟩) (.inl rfl) (.int .i64 0)).setCell (p := ⟨w.heap.size + 1, 3, none⟩) (.inl rfl) (.string ⟨#[]⟩)).setCell (p := ⟨w.heap.size + 1, 4, none⟩) (.inl rfl) (.int .u8 0))
        generalize World.setCell _ ⟨w.heap.size + 1, 4, none⟩ _ = wy at hln hmy ⊢
        clear r0 r1 r2 r3 r4 fr
        have hl4 := hln.out
        have k0 := hl4.at_ 0 rfl
        have k1 := hl4.at_ 1 rfl
        have k2 := hl4.at_ 2 rfl
        have k3 := hl4.at_ 3 rfl
        have k4 := hl4.at_ 4 rfl
        clear hl4
        refine bodyPost_ret (by simp [results, Tryz.results71, go_sem, k0, k1, k2, k3, k4]; try rfl) rfl ?_
        have hmf : Mod (fun k => k = g ∨ some k = r.stack.v.ownBlock ∨ some k = e0.inner.v.ownBlock ∨ some k = r.texts.v.ownBlock) w wy := HM6.out.trans hmy.out (fun k hk e => by omega)
        refine ⟨rfl, ⟨w5.heap.size, tb, lt, v, hv, HP6.out.mod hmy.out (Blk.ne_ HP6.out HR6.out (by decide)), HS6.out.mod hmy.out (fun k hk e => own_ne HS6.out.2 HR6.out (by decide) (by rw [hk, e])), own_mod HI6.out hmy.out (fun k hk e => own_ne HI6.out HR6.out (by decide) (by rw [hk, e])), HH6.out.mod hmy.out (Blk.ne_ HH6.out HR6.out (by decide)), HT6.out.mod hmy.out (Blk.ne_ HT6.out HR6.out (by decide)), own_mod HL6.out hmy.out (fun k hk e => own_ne HL6.out HR6.out (by decide) (by rw [hk, e])), hln5, hsz5, Nat.le_trans hXb.out.size htb, hmf⟩, hmf.size, fun lb cs h => h.mod hmf (fun e => Or.elim e (fun e => Blk.ne_ h HPS0.out (by decide) e) (fun e => Or.elim e (own_ne HST0.out.2 h (by decide)) (fun e => Or.elim e (own_ne HIN0.out h (by decide)) (own_ne HROW0.out h (by decide)))))⟩
    · obtain rfl : C = R := by rw [HC.out, if_pos ⟨h1, h2⟩]
      have hTe : T.isEmpty = false := by simpa using h2
      subst h1
      go_wp2_with fail
      go_region
      go_wp2_with fail
      have hXp : Hid (IsPS (World.drew (World.alloc wa (.cells #[.int .i64 r.lineno, .int .i64 r.lineno] 92))) g r) := hid (hpa.out.alloc _)
      have hXs : Hid (IsStack (World.drew (World.alloc wa (.cells #[.int .i64 r.lineno, .int .i64 r.lineno] 92))) B r.stack (es ++ [e0])) := hid (hsa.out.alloc _)
      have hXi : Hid (World.ownsRow (World.drew (World.alloc wa (.cells #[.int .i64 r.lineno, .int .i64 r.lineno] 92))) B 55 1 e0.inner.v e0.inner.n bs) := hid (World.ownsRow.alloc hia.out _)
      have hXt : Hid (World.ownsRow (World.drew (World.alloc wa (.cells #[.int .i64 r.lineno, .int .i64 r.lineno] 92))) B 89 1 r.texts.v r.texts.n ts) := hid (World.ownsRow.alloc hta.out _)
      have hXr : Hid (Blk (World.drew (World.alloc wa (.cells #[.int .i64 r.lineno, .int .i64 r.lineno] 92))) (w.heap.size + 1) 87 #[.int .i64 0, .int .i64 0, .int .i64 0, .string ⟨#[]⟩, .int .u8 0]) := hid (hra.out.alloc _)
      have hXw : Hid (Blk (World.drew (World.alloc wa (.cells #[.int .i64 r.lineno, .int .i64 r.lineno] 92))) (w.heap.size + 1 + 1 + 1) 3 #[.int .i64 n]) := hid (hwa.out.alloc _)
      have hXq : Hid (Blk (World.drew (World.alloc wa (.cells #[.int .i64 r.lineno, .int .i64 r.lineno] 92))) wa.heap.size 92 #[.int .i64 r.lineno, .int .i64 r.lineno]) := hid (Blk.new wa _ _)
      have hXb : Hid (Below w.heap.size w (World.drew (World.alloc wa (.cells #[.int .i64 r.lineno, .int .i64 r.lineno] 92)))) := hid (((hba.out.alloc hba.out.size _) : Below w.heap.size w (World.alloc wa _)).drew)
      generalize World.drew (World.alloc wa (.cells #[.int .i64 r.lineno, .int .i64 r.lineno] 92)) = xa at hXp hXs hXi hXt hXr hXw hXq hXb ⊢
      clear c3 c0 hd0 hw0 hpa hsa hia hta hra hwa hba hda
      have hw0 := hXw.out.at_ 0 rfl
      have hq0 := hXq.out.at_ 0 rfl
      have hq1 := hXq.out.at_ 1 rfl
      have hBx : B ≤ xa.heap.size := Nat.le_trans hB hXb.out.size
      go_region_law (first
        | (go_simp ; go_at_call 119 ; refine (newText_any B g r r.lineno r.lineno _ ts (World.drew xa) hBx hXp.out hXt.out hrn).mono ?_ ; rintro e w5 ⟨tb, lt, rfl, htb, hbt, hp5, hrow5, hln5, hm5⟩ ; have hs5 : Hid (IsStack w5 B r.stack (es ++ [e0])) := hid (IsStack.mod (w := World.drew xa) hXs.out hm5 (fun k hk e => Or.elim e (fun e => by subst e; exact own_ne hXs.out.2 hXp.out (by decide) hk.symm) (fun e => ownApart hXs.out.2 hXt.out (by decide) hk e.symm))) ; have hi5 : Hid (World.ownsRow w5 B 55 1 e0.inner.v e0.inner.n bs) := hid (own_mod (w := World.drew xa) hXi.out hm5 (fun k hk e => Or.elim e (fun e => by subst e; exact own_ne hXi.out hXp.out (by decide) hk.symm) (fun e => ownApart hXi.out hXt.out (by decide) hk e.symm))) ; have hw5 := (Blk.mod (w := World.drew xa) hXw.out hm5 (fun e => Or.elim e (fun e => by omega) (fun e => own_ne hXt.out hXw.out (by decide) e))).at_ 0 rfl ; have hr5 := hid (Blk.mod (w := World.drew xa) hXr.out hm5 (fun e => Or.elim e (fun e => by omega) (fun e => own_ne hXt.out hXr.out (by decide) e))) ; have hq5 := Blk.mod (w := World.drew xa) hXq.out hm5 (fun e => Or.elim e (fun e => by omega) (fun e => own_ne hXt.out hXq.out (by decide) e)) ; have hq50 := hq5.at_ 0 rfl ; have hq51 := hq5.at_ 1 rfl ; have hp5' := hid hp5 ; have hm5' := hid hm5 ; have hbt' := hid hbt ; have hrow5' := hid hrow5 ; have hB5 : B ≤ w5.heap.size := Nat.le_trans hBx hm5.size ; clear hp5 hm5 hbt hrow5 hq5)
        | (go_simp ; go_at_call 118 ; refine (doneBlock_top B g { r with texts := lt } es e0 _ _ _ bs ?_ ?_ ?_ hd hn ?_ hm).mono ?_ ; (· simp; omega) ; (· exact IsPS.alloc hp5'.out _) ; (· exact IsStack.alloc hs5.out _) ; (· exact World.ownsRow.alloc hi5.out _) ; rintro e w6 ⟨rfl, hdone⟩))
      all_goals
        obtain ⟨v, hv, hps6, hst6, hin6, hmod⟩ := hdone
        have ha6 : Mod (fun k => some k = r.stack.v.ownBlock ∨ some k = e0.inner.v.ownBlock) w5 w6 := Mod.trans ((Mod.refl (fun k => some k = r.stack.v.ownBlock ∨ some k = e0.inner.v.ownBlock) w5).alloc (.cells #[.int .i64 r.lineno, .int .i64 r.lineno, .int .i64 n, .pointer (some ⟨tb, 0, none⟩), .string ⟨#[]⟩] 220)) hmod (fun _ _ h => h)
        have hr6 := Blk.mod hr5.out ha6 (fun h => Or.elim h (own_ne hs5.out.2 hr5.out (by decide)) (own_ne hi5.out hr5.out (by decide)))
        have ht6 := Blk.mod hbt'.out ha6 (fun h => Or.elim h (own_ne hs5.out.2 hbt'.out (by decide)) (own_ne hi5.out hbt'.out (by decide)))
        have hh6 : Blk w6 w5.heap.size 220 #[.int .i64 r.lineno, .int .i64 r.lineno, .int .i64 n, .pointer (some ⟨tb, 0, none⟩), .string ⟨#[]⟩] := Blk.mod (Blk.new' (w := w5) rfl) hmod (fun h => Or.elim h (fun e => absurd (own_lt hs5.out.2 e) (by omega)) (fun e => absurd (own_lt hi5.out e) (by omega)))
        have hl6 := own_mod hrow5'.out ha6 (fun k hk e => Or.elim e (fun e => ownApart hs5.out.2 hrow5'.out (by decide) e.symm hk) (fun e => ownApart hi5.out hrow5'.out (by decide) e.symm hk))
        have hm6 : Mod (fun k => k = g ∨ some k = r.stack.v.ownBlock ∨ some k = e0.inner.v.ownBlock ∨ some k = r.texts.v.ownBlock) w w6 := Mod.trans (Mod.trans (Mod.below' (S := (fun k => k = g ∨ some k = r.stack.v.ownBlock ∨ some k = e0.inner.v.ownBlock ∨ some k = r.texts.v.ownBlock)) (hXb.out.drew)) hm5'.out (fun k _ h => Or.elim h (fun e => .inl e) (fun e => .inr (.inr (.inr e))))) ha6 (fun k _ h => Or.elim h (fun h => .inr (.inl h)) (fun h => .inr (.inr (.inl h))))
        have hsz5 : w.heap.size ≤ w5.heap.size := Nat.le_trans hXb.out.size hm5'.out.size
        have r0 := hr6.at_ 0 rfl
        have r1 := hr6.at_ 1 rfl
        have r2 := hr6.at_ 2 rfl
        have r3 := hr6.at_ 3 rfl
        have r4 := hr6.at_ 4 rfl
        have fr := hr6.free
        have HR6 := hid hr6
        have HM6 := hid hm6
        have HT6 := hid ht6
        have HH6 := hid hh6
        have HL6 := hid hl6
        have HP6 := hid hps6
        have HS6 := hid hst6
        have HI6 := hid hin6
        clear hr6 hm6 ht6 hh6 hl6 hps6 hst6 hin6 hmod ha6
        repeat (first | go_skip | go_guarded | go_step)
        have hln := hid (line_zero HR6.out)
        have hmy : Hid (Mod (fun k => k = w.heap.size + 1) w6 _) := hid ((((((Mod.refl (fun k => k = w.heap.size + 1) w6).setCell (p := ⟨w.heap.size + 1, 0, none⟩) (.inl rfl) (.int .i64 0)).setCell (p := ⟨w.heap.size + 1, 1, none⟩) (.inl rfl) (.int .i64 0)).setCell (p := ⟨w.heap.size + 1, 2, none⟩) (.inl rfl) (.int .i64 0)).setCell (p := ⟨w.heap.size + 1, 3, none⟩) (.inl rfl) (.string ⟨#[]⟩)).setCell (p := ⟨w.heap.size + 1, 4, none⟩) (.inl rfl) (.int .u8 0))
        generalize World.setCell _ ⟨w.heap.size + 1, 4, none⟩ _ = wy at hln hmy ⊢
        clear r0 r1 r2 r3 r4 fr
        have hl4 := hln.out
        have k0 := hl4.at_ 0 rfl
        have k1 := hl4.at_ 1 rfl
        have k2 := hl4.at_ 2 rfl
        have k3 := hl4.at_ 3 rfl
        have k4 := hl4.at_ 4 rfl
        clear hl4
        refine bodyPost_ret (by simp [results, Tryz.results71, go_sem, k0, k1, k2, k3, k4]; try rfl) rfl ?_
        have hmf : Mod (fun k => k = g ∨ some k = r.stack.v.ownBlock ∨ some k = e0.inner.v.ownBlock ∨ some k = r.texts.v.ownBlock) w wy := HM6.out.trans hmy.out (fun k hk e => by omega)
        refine ⟨rfl, ⟨w5.heap.size, tb, lt, v, hv, HP6.out.mod hmy.out (Blk.ne_ HP6.out HR6.out (by decide)), HS6.out.mod hmy.out (fun k hk e => own_ne HS6.out.2 HR6.out (by decide) (by rw [hk, e])), own_mod HI6.out hmy.out (fun k hk e => own_ne HI6.out HR6.out (by decide) (by rw [hk, e])), HH6.out.mod hmy.out (Blk.ne_ HH6.out HR6.out (by decide)), HT6.out.mod hmy.out (Blk.ne_ HT6.out HR6.out (by decide)), own_mod HL6.out hmy.out (fun k hk e => own_ne HL6.out HR6.out (by decide) (by rw [hk, e])), hln5, hsz5, Nat.le_trans hXb.out.size htb, hmf⟩, hmf.size, fun lb cs h => h.mod hmf (fun e => Or.elim e (fun e => Blk.ne_ h HPS0.out (by decide) e) (fun e => Or.elim e (own_ne HST0.out.2 h (by decide)) (fun e => Or.elim e (own_ne HIN0.out h (by decide)) (own_ne HROW0.out h (by decide)))))⟩
  · obtain rfl : C = T := by rw [HC.out, if_neg (fun h => h1 h.1)]
    have h1n : ¬ C = T2 := fun e => h1 e.symm
    go_wp2_with fail
    go_region
    go_wp2_with fail
    have hXp : Hid (IsPS (World.drew (World.alloc wa (.cells #[.int .i64 r.lineno, .int .i64 r.lineno] 92))) g r) := hid (hpa.out.alloc _)
    have hXs : Hid (IsStack (World.drew (World.alloc wa (.cells #[.int .i64 r.lineno, .int .i64 r.lineno] 92))) B r.stack (es ++ [e0])) := hid (hsa.out.alloc _)
    have hXi : Hid (World.ownsRow (World.drew (World.alloc wa (.cells #[.int .i64 r.lineno, .int .i64 r.lineno] 92))) B 55 1 e0.inner.v e0.inner.n bs) := hid (World.ownsRow.alloc hia.out _)
    have hXt : Hid (World.ownsRow (World.drew (World.alloc wa (.cells #[.int .i64 r.lineno, .int .i64 r.lineno] 92))) B 89 1 r.texts.v r.texts.n ts) := hid (World.ownsRow.alloc hta.out _)
    have hXr : Hid (Blk (World.drew (World.alloc wa (.cells #[.int .i64 r.lineno, .int .i64 r.lineno] 92))) (w.heap.size + 1) 87 #[.int .i64 0, .int .i64 0, .int .i64 0, .string ⟨#[]⟩, .int .u8 0]) := hid (hra.out.alloc _)
    have hXw : Hid (Blk (World.drew (World.alloc wa (.cells #[.int .i64 r.lineno, .int .i64 r.lineno] 92))) (w.heap.size + 1 + 1 + 1) 3 #[.int .i64 n]) := hid (hwa.out.alloc _)
    have hXq : Hid (Blk (World.drew (World.alloc wa (.cells #[.int .i64 r.lineno, .int .i64 r.lineno] 92))) wa.heap.size 92 #[.int .i64 r.lineno, .int .i64 r.lineno]) := hid (Blk.new wa _ _)
    have hXb : Hid (Below w.heap.size w (World.drew (World.alloc wa (.cells #[.int .i64 r.lineno, .int .i64 r.lineno] 92)))) := hid (((hba.out.alloc hba.out.size _) : Below w.heap.size w (World.alloc wa _)).drew)
    generalize World.drew (World.alloc wa (.cells #[.int .i64 r.lineno, .int .i64 r.lineno] 92)) = xa at hXp hXs hXi hXt hXr hXw hXq hXb ⊢
    clear c3 c0 hd0 hw0 hpa hsa hia hta hra hwa hba hda
    have hw0 := hXw.out.at_ 0 rfl
    have hq0 := hXq.out.at_ 0 rfl
    have hq1 := hXq.out.at_ 1 rfl
    have hBx : B ≤ xa.heap.size := Nat.le_trans hB hXb.out.size
    go_region_law (first
      | (go_simp ; go_at_call 119 ; refine (newText_any B g r r.lineno r.lineno _ ts (World.drew xa) hBx hXp.out hXt.out hrn).mono ?_ ; rintro e w5 ⟨tb, lt, rfl, htb, hbt, hp5, hrow5, hln5, hm5⟩ ; have hs5 : Hid (IsStack w5 B r.stack (es ++ [e0])) := hid (IsStack.mod (w := World.drew xa) hXs.out hm5 (fun k hk e => Or.elim e (fun e => by subst e; exact own_ne hXs.out.2 hXp.out (by decide) hk.symm) (fun e => ownApart hXs.out.2 hXt.out (by decide) hk e.symm))) ; have hi5 : Hid (World.ownsRow w5 B 55 1 e0.inner.v e0.inner.n bs) := hid (own_mod (w := World.drew xa) hXi.out hm5 (fun k hk e => Or.elim e (fun e => by subst e; exact own_ne hXi.out hXp.out (by decide) hk.symm) (fun e => ownApart hXi.out hXt.out (by decide) hk e.symm))) ; have hw5 := (Blk.mod (w := World.drew xa) hXw.out hm5 (fun e => Or.elim e (fun e => by omega) (fun e => own_ne hXt.out hXw.out (by decide) e))).at_ 0 rfl ; have hr5 := hid (Blk.mod (w := World.drew xa) hXr.out hm5 (fun e => Or.elim e (fun e => by omega) (fun e => own_ne hXt.out hXr.out (by decide) e))) ; have hq5 := Blk.mod (w := World.drew xa) hXq.out hm5 (fun e => Or.elim e (fun e => by omega) (fun e => own_ne hXt.out hXq.out (by decide) e)) ; have hq50 := hq5.at_ 0 rfl ; have hq51 := hq5.at_ 1 rfl ; have hp5' := hid hp5 ; have hm5' := hid hm5 ; have hbt' := hid hbt ; have hrow5' := hid hrow5 ; have hB5 : B ≤ w5.heap.size := Nat.le_trans hBx hm5.size ; clear hp5 hm5 hbt hrow5 hq5)
      | (go_simp ; go_at_call 118 ; refine (doneBlock_top B g { r with texts := lt } es e0 _ _ _ bs ?_ ?_ ?_ hd hn ?_ hm).mono ?_ ; (· simp; omega) ; (· exact IsPS.alloc hp5'.out _) ; (· exact IsStack.alloc hs5.out _) ; (· exact World.ownsRow.alloc hi5.out _) ; rintro e w6 ⟨rfl, hdone⟩))
    all_goals
      obtain ⟨v, hv, hps6, hst6, hin6, hmod⟩ := hdone
      have ha6 : Mod (fun k => some k = r.stack.v.ownBlock ∨ some k = e0.inner.v.ownBlock) w5 w6 := Mod.trans ((Mod.refl (fun k => some k = r.stack.v.ownBlock ∨ some k = e0.inner.v.ownBlock) w5).alloc (.cells #[.int .i64 r.lineno, .int .i64 r.lineno, .int .i64 n, .pointer (some ⟨tb, 0, none⟩), .string ⟨#[]⟩] 220)) hmod (fun _ _ h => h)
      have hr6 := Blk.mod hr5.out ha6 (fun h => Or.elim h (own_ne hs5.out.2 hr5.out (by decide)) (own_ne hi5.out hr5.out (by decide)))
      have ht6 := Blk.mod hbt'.out ha6 (fun h => Or.elim h (own_ne hs5.out.2 hbt'.out (by decide)) (own_ne hi5.out hbt'.out (by decide)))
      have hh6 : Blk w6 w5.heap.size 220 #[.int .i64 r.lineno, .int .i64 r.lineno, .int .i64 n, .pointer (some ⟨tb, 0, none⟩), .string ⟨#[]⟩] := Blk.mod (Blk.new' (w := w5) rfl) hmod (fun h => Or.elim h (fun e => absurd (own_lt hs5.out.2 e) (by omega)) (fun e => absurd (own_lt hi5.out e) (by omega)))
      have hl6 := own_mod hrow5'.out ha6 (fun k hk e => Or.elim e (fun e => ownApart hs5.out.2 hrow5'.out (by decide) e.symm hk) (fun e => ownApart hi5.out hrow5'.out (by decide) e.symm hk))
      have hm6 : Mod (fun k => k = g ∨ some k = r.stack.v.ownBlock ∨ some k = e0.inner.v.ownBlock ∨ some k = r.texts.v.ownBlock) w w6 := Mod.trans (Mod.trans (Mod.below' (S := (fun k => k = g ∨ some k = r.stack.v.ownBlock ∨ some k = e0.inner.v.ownBlock ∨ some k = r.texts.v.ownBlock)) (hXb.out.drew)) hm5'.out (fun k _ h => Or.elim h (fun e => .inl e) (fun e => .inr (.inr (.inr e))))) ha6 (fun k _ h => Or.elim h (fun h => .inr (.inl h)) (fun h => .inr (.inr (.inl h))))
      have hsz5 : w.heap.size ≤ w5.heap.size := Nat.le_trans hXb.out.size hm5'.out.size
      have r0 := hr6.at_ 0 rfl
      have r1 := hr6.at_ 1 rfl
      have r2 := hr6.at_ 2 rfl
      have r3 := hr6.at_ 3 rfl
      have r4 := hr6.at_ 4 rfl
      have fr := hr6.free
      have HR6 := hid hr6
      have HM6 := hid hm6
      have HT6 := hid ht6
      have HH6 := hid hh6
      have HL6 := hid hl6
      have HP6 := hid hps6
      have HS6 := hid hst6
      have HI6 := hid hin6
      clear hr6 hm6 ht6 hh6 hl6 hps6 hst6 hin6 hmod ha6
      repeat (first | go_skip | go_guarded | go_step)
      have hln := hid (line_zero HR6.out)
      have hmy : Hid (Mod (fun k => k = w.heap.size + 1) w6 _) := hid ((((((Mod.refl (fun k => k = w.heap.size + 1) w6).setCell (p := ⟨w.heap.size + 1, 0, none⟩) (.inl rfl) (.int .i64 0)).setCell (p := ⟨w.heap.size + 1, 1, none⟩) (.inl rfl) (.int .i64 0)).setCell (p := ⟨w.heap.size + 1, 2, none⟩) (.inl rfl) (.int .i64 0)).setCell (p := ⟨w.heap.size + 1, 3, none⟩) (.inl rfl) (.string ⟨#[]⟩)).setCell (p := ⟨w.heap.size + 1, 4, none⟩) (.inl rfl) (.int .u8 0))
      generalize World.setCell _ ⟨w.heap.size + 1, 4, none⟩ _ = wy at hln hmy ⊢
      clear r0 r1 r2 r3 r4 fr
      have hl4 := hln.out
      have k0 := hl4.at_ 0 rfl
      have k1 := hl4.at_ 1 rfl
      have k2 := hl4.at_ 2 rfl
      have k3 := hl4.at_ 3 rfl
      have k4 := hl4.at_ 4 rfl
      clear hl4
      refine bodyPost_ret (by simp [results, Tryz.results71, go_sem, k0, k1, k2, k3, k4]; try rfl) rfl ?_
      have hmf : Mod (fun k => k = g ∨ some k = r.stack.v.ownBlock ∨ some k = e0.inner.v.ownBlock ∨ some k = r.texts.v.ownBlock) w wy := HM6.out.trans hmy.out (fun k hk e => by omega)
      refine ⟨rfl, ⟨w5.heap.size, tb, lt, v, hv, HP6.out.mod hmy.out (Blk.ne_ HP6.out HR6.out (by decide)), HS6.out.mod hmy.out (fun k hk e => own_ne HS6.out.2 HR6.out (by decide) (by rw [hk, e])), own_mod HI6.out hmy.out (fun k hk e => own_ne HI6.out HR6.out (by decide) (by rw [hk, e])), HH6.out.mod hmy.out (Blk.ne_ HH6.out HR6.out (by decide)), HT6.out.mod hmy.out (Blk.ne_ HT6.out HR6.out (by decide)), own_mod HL6.out hmy.out (fun k hk e => own_ne HL6.out HR6.out (by decide) (by rw [hk, e])), hln5, hsz5, Nat.le_trans hXb.out.size htb, hmf⟩, hmf.size, fun lb cs h => h.mod hmf (fun e => Or.elim e (fun e => Blk.ne_ h HPS0.out (by decide) e) (fun e => Or.elim e (own_ne HST0.out.2 h (by decide)) (fun e => Or.elim e (own_ne HIN0.out h (by decide)) (own_ne HROW0.out h (by decide)))))⟩
end Go.Proofs.YtpojmloeadodhaaGreatDoor
/- The library's contracts on strconv.Itoa, laid at this program. -/



namespace Go.Proofs
open Go.Shelf
def Tryz.layIT_ren : Go.Shelf.Ren := ⟨fun | 171 => 203 | 243 => 206 | 246 => 207 | 283 => 208 | 284 => 209 | 285 => 210 | 286 => 211 | 129 => 213 | 317 => 212 | 318 => 214 | 319 => 215 | 320 => 216 | 337 => 217 | 338 => 218 | n => n, fun | 3 => 3 | 9 => 9 | 2 => 2 | 4 => 4 | 171 => 313 | 0 => 0 | 53 => 289 | 37 => 51 | 5 => 5 | 173 => 316 | 212 => 320 | 51 => 38 | 20 => 20 | 213 => 321 | 46 => 252 | 232 => 325 | 233 => 326 | n => n, fun | 17 => 6 | 18 => 7 | 19 => 8 | n => n⟩
theorem Tryz.layIT : Go.Proofs.Lays.n171 Tryz.prog Tryz.layIT_ren := {
  mixed := by kernel_rfl
  f129 := Tryz.func213.trans (congrArg some (by kernel_rfl))
  f171 := Tryz.func203.trans (congrArg some (by kernel_rfl))
  f243 := Tryz.func206.trans (congrArg some (by kernel_rfl))
  f246 := Tryz.func207.trans (congrArg some (by kernel_rfl))
  f283 := Tryz.func208.trans (congrArg some (by kernel_rfl))
  f284 := Tryz.func209.trans (congrArg some (by kernel_rfl))
  f285 := Tryz.func210.trans (congrArg some (by kernel_rfl))
  f286 := Tryz.func211.trans (congrArg some (by kernel_rfl))
  f317 := Tryz.func212.trans (congrArg some (by kernel_rfl))
  f318 := Tryz.func214.trans (congrArg some (by kernel_rfl))
  f319 := Tryz.func215.trans (congrArg some (by kernel_rfl))
  f320 := Tryz.func216.trans (congrArg some (by kernel_rfl))
  f337 := Tryz.func217.trans (congrArg some (by kernel_rfl))
  f338 := Tryz.func218.trans (congrArg some (by kernel_rfl))
  t0 := Tryz.underlying0
  a0 := Tryz.isAgg0
  z0 := Tryz.sizeOf0
  v0 := Tryz.zeroValue0
  t2 := Tryz.underlying2
  a2 := Tryz.isAgg2
  z2 := Tryz.sizeOf2
  v2 := Tryz.zeroValue2
  t3 := Tryz.underlying3
  a3 := Tryz.isAgg3
  z3 := Tryz.sizeOf3
  v3 := Tryz.zeroValue3
  t4 := Tryz.underlying4
  a4 := Tryz.isAgg4
  z4 := Tryz.sizeOf4
  v4 := Tryz.zeroValue4
  t5 := Tryz.underlying5
  a5 := Tryz.isAgg5
  z5 := Tryz.sizeOf5
  v5 := Tryz.zeroValue5
  t9 := Tryz.underlying9
  a9 := Tryz.isAgg9
  z9 := Tryz.sizeOf9
  v9 := Tryz.zeroValue9
  t20 := Tryz.underlying20
  a20 := Tryz.isAgg20
  z20 := Tryz.sizeOf20
  v20 := Tryz.zeroValue20
  t37 := Tryz.underlying51
  a37 := Tryz.isAgg51
  z37 := Tryz.sizeOf51
  v37 := Tryz.zeroValue51
  t46 := Tryz.underlying252
  a46 := Tryz.isAgg252
  z46 := Tryz.sizeOf252
  v46 := Tryz.zeroValue252
  t51 := Tryz.underlying38
  a51 := Tryz.isAgg38
  z51 := Tryz.sizeOf38
  v51 := Tryz.zeroValue38
  t53 := Tryz.underlying289
  a53 := Tryz.isAgg289
  z53 := Tryz.sizeOf289
  v53 := Tryz.zeroValue289
  t171 := Tryz.underlying313
  a171 := Tryz.isAgg313
  z171 := Tryz.sizeOf313
  v171 := Tryz.zeroValue313
  t173 := Tryz.underlying316
  a173 := Tryz.isAgg316
  z173 := Tryz.sizeOf316
  v173 := Tryz.zeroValue316
  t212 := Tryz.underlying320
  a212 := Tryz.isAgg320
  z212 := Tryz.sizeOf320
  v212 := Tryz.zeroValue320
  t213 := Tryz.underlying321
  a213 := Tryz.isAgg321
  z213 := Tryz.sizeOf321
  t232 := Tryz.underlying325
  a232 := Tryz.isAgg325
  z232 := Tryz.sizeOf325
  v232 := Tryz.zeroValue325
  t233 := Tryz.underlying326
  a233 := Tryz.isAgg326
  z233 := Tryz.sizeOf326
  v233 := Tryz.zeroValue326
  g17 := by kernel_rfl
  g18 := by kernel_rfl
  g19 := by kernel_rfl }
end Go.Proofs
/- HTML of a heading. -/


namespace Go.Proofs.YtpojmloeadodhaaGreatDoor
open Go.RowKit
theorem itoa_any (n : Nat) (w : World) (hn : n < 100) : Calls Tryz.prog 203 #[.int .i64 n] w fun e w' => e = .returned (.string ⟨(Lib.decDigits n).toArray⟩) ∧ w = w' :=
  (Any.strconv_Itoa_small Tryz.layIT n hn w).mono (fun _ _ h => ⟨h.1, h.2.symm⟩)
def headOut (D out : List UInt8) : List UInt8 := [60, 104] ++ D ++ [62] ++ out ++ [60, 47, 104] ++ D ++ [62, 10]
theorem headOut_len (D out : List UInt8) : (headOut D out).length = 2 * D.length + out.length + 8 := by
  unfold headOut
  simp only [List.length_append, List.length_cons, List.length_nil]
  omega
set_option maxRecDepth 20000 in
set_option maxHeartbeats 1600000 in
theorem headHTML_any (B b d tb base n : Nat) (bs : List UInt8) (sl el sl2 el2 : Int) (raw : Value) (inner : Sl) (ys : List Value) (outs : List (List UInt8)) (w : World) (hn9 : n < 100) (hD : (Lib.decDigits n).length ≤ 2)
    (hd : Blk w d 220 #[.int .i64 sl, .int .i64 el, .int .i64 n, .pointer (some ⟨tb, 0, none⟩), .string ⟨#[]⟩])
    (hblk : Blk w tb 94 #[.int .i64 sl2, .int .i64 el2, inner.v, raw]) (hrow : w.ownsRow base 113 1 inner.v inner.n ys) (hn : inner.n ≤ 1000000) (hbne : tb ≠ b) (hbnd : d ≠ b)
    (hbuf : IsBuf B b bs w) (hB : B ≤ w.heap.size) (hlo : outs.length = ys.length) (hp : ∀ (i : Nat) y o bs', ys[i]? = some y → outs[i]? = some o → Prints w b bs' y o) (hl : bs.length + (headOut (Lib.decDigits n) outs.flatten).length ≤ 1000000) :
    Calls Tryz.prog 321 #[.pointer (some ⟨d, 0, none⟩), .pointer (some ⟨b, 0, none⟩)] w (PrintP B b bs (headOut (Lib.decDigits n) outs.flatten) w) := by
  have hIT := hid (fun W => itoa_any n W hn9)
  rw [headOut_len] at hl
  generalize Lib.decDigits n = D at hIT hl hD ⊢
  have hDs : (ByteArray.mk D.toArray).size = D.length := List.size_toArray ..
  have c2 := hd.at_ 2 rfl
  have HD := hid hd
  have HBLK := hid hblk
  have HROW := hid hrow
  have HBUF := hid hbuf
  have HP := hid hp
  have HLO := hid hlo
  have hrb : some b ≠ inner.v.ownBlock := by
    obtain ⟨cs, hcs⟩ := hbuf.blk
    exact own_ne hrow hcs (by decide)
  clear hd hblk hrow hbuf hp hlo
  go_enter Tryz.func321, Tryz.ntmps321
  go_wp2_with fail
  refine (hIT.out _).mono ?_
  rintro e w0 ⟨rfl, rfl⟩
  have hc1 : ¬ 9223372036854775807 < 2 + D.length := by omega
  have hc2 : ¬ 9223372036854775807 < 3 + D.length := by omega
  have hc3 : ¬ 9223372036854775807 < 3 + D.length + 2 := by omega
  have hz0 : (ByteArray.mk #[60, 104] ++ ByteArray.mk D.toArray).size = D.length + 2 := by rw [ByteArray.size_append, hDs]; show 2 + D.length = _; omega
  have hz9 : ((ByteArray.mk #[60, 47, 104] ++ ByteArray.mk D.toArray) ++ ByteArray.mk #[62, 10]).size = D.length + 5 := by rw [ByteArray.size_append, ByteArray.size_append, hDs]; show 3 + D.length + 2 = _; omega
  have HZ0 := hid hz0
  have HZ9 := hid hz9
  clear hz0 hz9
  go_wp2_with fail
  refine (write_str B b bs (ByteArray.mk #[60, 104] ++ ByteArray.mk D.toArray) w HBUF.out hB (by rw [HZ0.out]; omega)).mono ?_
  rintro e w1 ⟨rfl, hb1, hbl1, hk1⟩
  have hd1 := HD.out.kept hk1 hbnd (by decide)
  have k2 := hd1.at_ 2 rfl
  have k3 := hd1.at_ 3 rfl
  have k4 := hd1.at_ 4 rfl
  have HB1 := hid hb1
  have HBL1 := hid hbl1
  have HK1 := hid hk1
  have HD1 := hid hd1
  clear hb1 hbl1 hk1 hd1 c2
  have e1 : (ByteArray.mk #[60, 104] ++ ByteArray.mk D.toArray).data.toList = [60, 104] ++ D := by simp
  rw [e1] at HB1
  clear e1
  go_wp2_with fail
  refine (write_byte B b (bs ++ ([60, 104] ++ D)) 62 w1 HB1.out (Nat.le_trans hB HBL1.out.size) (by simp only [List.length_append, List.length_cons, List.length_nil]; omega)).mono ?_
  rintro e w2 ⟨rfl, hb2, hbl2, hk2⟩
  have hd2 := HD1.out.kept hk2 hbnd (by decide)
  have HB2 := hid hb2
  have HBL2 := hid (HBL1.out.trans hbl2)
  have HK2 := hid (Lib.OthersKept.trans HK1.out hk2)
  have k2' := hd2.at_ 2 rfl
  have k3' := hd2.at_ 3 rfl
  have HD2 := hid hd2
  clear hb2 hbl2 hk2 hd2 k2 k3 k4
  go_wp2_with fail
  refine (textHTML_any B b tb base (bs ++ ([60, 104] ++ D) ++ [62]) sl2 el2 raw inner ys outs w2 (HBLK.out.kept HK2.out hbne (by decide)) (own_kept HROW.out HK2.out hrb (by decide)) hn HB2.out (Nat.le_trans hB HBL2.out.size) HLO.out (fun i y o hy ho => (HP.out i y o _ hy ho).kept HK2.out) (by simp only [List.length_append, List.length_cons, List.length_nil]; omega)).mono ?_
  rintro e w3 ⟨rfl, hb3, hbl3, hk3⟩
  have hd3 := HD2.out.kept hk3 hbnd (by decide)
  have HB3 := hid hb3
  have HBL3 := hid (HBL2.out.trans hbl3)
  have HK3 := hid (Lib.OthersKept.trans HK2.out hk3)
  have k2 := hd3.at_ 2 rfl
  clear hb3 hbl3 hk3 hd3 k2' k3'
  go_wp2_with fail
  refine (hIT.out w3).mono ?_
  rintro e w4 ⟨rfl, rfl⟩
  go_wp2_with fail
  refine (write_str B b (bs ++ ([60, 104] ++ D) ++ [62] ++ outs.flatten) ((ByteArray.mk #[60, 47, 104] ++ ByteArray.mk D.toArray) ++ ByteArray.mk #[62, 10]) w3 HB3.out (Nat.le_trans hB HBL3.out.size) (by rw [HZ9.out]; simp only [List.length_append, List.length_cons, List.length_nil]; omega)).mono ?_
  rintro e w5 ⟨rfl, hb5, hbl5, hk5⟩
  have HB5 := hid hb5
  have HBL5 := hid (HBL3.out.trans hbl5)
  have HK5 := hid (Lib.OthersKept.trans HK3.out hk5)
  clear hb5 hbl5 hk5
  go_wp2_with fail
  go_end0
  refine ⟨rfl, ?_, HBL5.out, HK5.out⟩
  have := HB5.out
  unfold headOut
  simpa [List.append_assoc] using this
end Go.Proofs.YtpojmloeadodhaaGreatDoor
/- A text of one line that is a heading: its document, and its HTML. -/





namespace Go.Proofs.YtpojmloeadodhaaGreatDoor
open Go.RowKit
/-- A heading whose text holds a list that prints. -/
def IsHd (w : World) (B hb tb n : Nat) (out : List UInt8) : Prop :=
  ∃ (sl el sl2 el2 : Int) (raw : Value) (l : Sl) (vs : List Value) (ks : List Kind) (outs : List (List UInt8)), Blk w hb 220 #[.int .i64 sl, .int .i64 el, .int .i64 n, .pointer (some ⟨tb, 0, none⟩), .string ⟨#[]⟩] ∧ Blk w tb 94 #[.int .i64 sl2, .int .i64 el2, l.v, raw] ∧
    w.ownsRow B 113 1 l.v l.n vs ∧ l.n = ks.length ∧ IsItems w B vs ks ∧ l.n ≤ 1000000 ∧ outs.length = ks.length ∧ (∀ (i : Nat) k x, ks[i]? = some k → outs[i]? = some x → KPrints k x) ∧ outs.flatten = out ∧ (∀ k ∈ ks, k.Ok)
theorem dec_len (n : Nat) (h1 : 1 ≤ n) (h6 : n ≤ 6) : (Lib.decDigits n).length ≤ 2 := by
  rw [Lib.decDigits_one (by omega)]
  exact Nat.le_succ 1
theorem hd_prints (w : World) (B b hb tb n : Nat) (bs out : List UInt8) (hn1 : 1 ≤ n) (hn6 : n ≤ 6) (hbz : w.heap.size ≤ b) (h : IsHd w B hb tb n out) : Prints w b bs (headV hb) (headOut (Lib.decDigits n) out) := by
  obtain ⟨sl, el, sl2, el2, raw, l, vs, ks, outs, hblk, htx, hrow, hln, hits, hn, ho, hpr, rfl, hok⟩ := h
  refine ⟨_, _, 321, .pointer (some ⟨hb, 0, none⟩), rfl, fun W => by kernel_rfl, Go.Proofs.enters_of Tryz.func321 (by kernel_rfl) rfl, fun B' W hk hbf hB hl => ?_⟩
  have h1 := hblk.lt
  have h2 := htx.lt
  refine headHTML_any B' b hb tb B n bs sl el sl2 el2 raw l vs outs W (by omega) (dec_len n hn1 hn6) (hblk.kept hk (by omega) (by decide)) (htx.kept hk (by omega) (by decide)) (own_kept hrow hk (fun e => by have := ownLt hrow e; omega) (by decide)) hn (by omega) (by omega) hbf hB (by rw [ho, hits.1]) (fun i y x bs' hy hx => ?_) (by omega)
  have hi : i < vs.length := (List.getElem?_eq_some_iff.1 hy).1
  have hk0 : i < ks.length := by rw [← hits.1]; exact hi
  exact (hpr i _ x (List.getElem?_eq_getElem hk0) hx w B b bs' y (hits.2 i y _ hy (List.getElem?_eq_getElem hk0)) hbz).kept hk
def HeadInv (pb g : Nat) (w0 : World) (o : Opt) (s C : List UInt8) (n : Nat) (l : List UInt8) (m : Nat) (w : World) : Prop :=
  Below g w0 w ∧ Blk w pb 64 o.parser ∧ ∃ (st : Sl) (a : Option Addr),
    (l = s ∧ m = 0 ∧ IsPS w g { ps0 pb with stack := st } ∧ IsStack w (g + 1) st ([] ++ [rootF a Sl.nil])) ∨
    (∃ (hb tb : Nat) (lt v : Sl), l = [] ∧ m = 1 ∧ v.n = 1 ∧ lt.n = 1 ∧ IsPS w g { ps0 pb with lineno := 1, lineDepth := 0, stack := st, texts := lt } ∧ IsStack w (g + 1) st ([] ++ [rootF a v]) ∧ w.ownsRow (g + 1) 55 1 v.v v.n [headV hb] ∧
      Blk w hb 220 #[.int .i64 1, .int .i64 1, .int .i64 n, .pointer (some ⟨tb, 0, none⟩), .string ⟨#[]⟩] ∧ Blk w tb 94 #[.int .i64 1, .int .i64 1, .slice none 0 0, .string ⟨C.toArray⟩] ∧ w.ownsRow (g + 1) 89 1 lt.v lt.n [.pointer (some ⟨tb, 0, none⟩)] ∧ g < hb ∧ g < tb)
def HeadFin (pb g : Nat) (w0 : World) (o : Opt) (C out : List UInt8) (n : Nat) (ta : Option Addr) (k : Nat) (w : World) : Prop :=
  Below g w0 w ∧ Blk w pb 64 o.parser ∧ ∃ (r : PSr) (d hb tb ab : Nat) (v1 : Sl) (tc : Nat) (lk : Option Nat), IsPS w g r ∧ r.parser = pb ∧ r.root = some ⟨d, 0, none⟩ ∧ ta = some ⟨ab, 0, none⟩ ∧ r.texts = ⟨ta, 1, tc⟩ ∧ w.ownsRow (g + 1) 89 1 r.texts.v 1 [.pointer (some ⟨tb, 0, none⟩)] ∧
    Blk w d 340 #[.int .i64 0, .int .i64 0, v1.v, .map lk] ∧ v1.n = 1 ∧ w.ownsRow (g + 1) 55 1 v1.v 1 [headV hb] ∧ g < tb ∧
    ((k = 0 ∧ r.back.length = 81 ∧ ∃ (sl el sl2 el2 : Int), Blk w hb 220 #[.int .i64 sl, .int .i64 el, .int .i64 n, .pointer (some ⟨tb, 0, none⟩), .string ⟨#[]⟩] ∧ Blk w tb 94 #[.int .i64 sl2, .int .i64 el2, .slice none 0 0, .string ⟨C.toArray⟩]) ∨
     (k = 1 ∧ IsHd w (g + 1) hb tb n out))
set_option maxRecDepth 20000 in
theorem headH (pb g : Nat) (w0 : World) (o : Opt) (s R out : List UInt8) (n k0 : Nat) (hS : HeadAt ⟨s.toArray⟩ n R k0) (hno : 10 ∉ s ∧ 13 ∉ s) (hpb : pb < g) (hi : InlC o (headC R k0) out) (ht : o.tasks = false) (hh : o.headID = false) :
    ParseH2 pb g 1 (HeadInv pb g w0 o s (headC R k0) n) (HeadFin pb g w0 o (headC R k0) out n) s.length where
  line := by
    intro l m w ⟨hb, hpar, st, a, h⟩ hne hll
    rcases h with ⟨rfl, rfl, hps, hst⟩ | ⟨_, _, _, _, h, _⟩
    · have hsz := hS.size
      have hsl : l.length ≤ 100000 := by rw [sz_mk] at hsz; exact hsz
      have hg := hps.lt
      refine ⟨⟨_, hps, rfl⟩, by omega, ?_⟩
      have hnl : nextLine l = (l, 0, []) := by
        unfold nextLine
        rw [idxB_not _ _ hno.2, idxB_not _ _ hno.1]
        rfl
      rw [hnl]
      have hne2 : some g ≠ st.v.ownBlock := own_ne hst.2 hps (by decide)
      have hpar3 := hpar.far (p := ⟨g, 3, none⟩) (Blk.ne_ hpar hps (by decide)) (.int .i64 ((0 : Nat) + 1))
      have hst3 := hst.far (p := ⟨g, 3, none⟩) hne2 (.int .i64 ((0 : Nat) + 1))
      have hbl : (trimL (ByteArray.mk l.toArray).data.toList).isEmpty = false := by
        have h35 := hS.h35 0 hS.n1
        cases l with
        | nil => exact absurd rfl hne
        | cons c t =>
          have hc : bt ⟨(c :: t).toArray⟩ 0 = (c.toNat : Int) := by rw [bt_list]; rfl
          rw [hc] at h35
          have : c = 35 := UInt8.toNat_inj.1 (by show c.toNat = 35; omega)
          subst this
          rfl
      refine (addLine_one g 1 { ps0 pb with lineno := 1, stack := st } ⟨l.toArray⟩ 0 _ (fun w' => ∃ w9, Mod (fun k => k = g) (w.setCell ⟨g, 3, none⟩ (.int .i64 ((0 : Nat) + 1))) w9 ∧ HeadP (g + 1) g { ps0 pb with lineno := 1, lineDepth := 0, stack := st } [] (rootF a Sl.nil) [] [] n (headC R k0) w9 w') (hps.set3 _) hst.1 (by omega) (by omega) hbl ?_ ?_).mono ?_
      · intro i f' wr hi' hf' hp hm
        obtain rfl : i = 0 := by omega
        cases hf'
        exact newQuote_no2 g 0 0 0 ⟨l.toArray⟩ wr (by omega) (Nat.zero_le _) hS.tab (fun k hk => by rw [reach0 (by rw [hS.h35 0 hS.n1]; decide) hk, hS.h35 0 hS.n1]; decide)
      · intro f' wr hf' hp hm
        cases hf'
        have hg2 := hp.lt
        have hst4 := hst3.mod hm (fun k hk e => hne2 (by rw [hk, e]))
        have hpar4 := hpar3.mod hm (by omega)
        refine (newATX_yes (g + 1) g n k0 _ [] (rootF a Sl.nil) [] [] R 0 ⟨l.toArray⟩ wr hg2 hp hst4 rfl (by simp) (World.ownsRow_nil _ _ _ _) (by show 0 ≤ 1000000; omega) (World.ownsRow_nil _ _ _ _) (by show 0 ≤ 1000000; omega) ?_ (by show pb ≠ g; omega) hS).mono ?_
        · have := hpar4.at_ 0 (v := .bool o.headID) rfl
          rw [hh] at this
          exact this
        · rintro e w' ⟨rfl, hq, hz, hk⟩
          exact ⟨rfl, ⟨wr, hm, hq⟩, hz, hk⟩
      · rintro e w' ⟨rfl, w1, lb, cs, ⟨w9, hm9, hb', tb, lt, v, hv, hps', hst', hrow', hkb, hkt, hrt, hltn, hh1, hh2, hmod9⟩, hlb, hblk, hmod⟩
        have h1' : g ≠ lb := Blk.ne_ hps' hblk (by decide)
        have hg9 : g < w9.heap.size := by have := hm9.size; simp at this; omega
        have hst9 : IsStack w9 (g + 1) st ([] ++ [rootF a Sl.nil]) := hst3.mod hm9 (fun k hk e => hne2 (by rw [hk, e]))
        have hlb' : w.heap.size ≤ lb := by simpa using hlb
        have hbw : Below g w w' := (((Below.refl g w).setCell (p := ⟨g, 3, none⟩) (Nat.le_refl _) _).trans (hm9.toBelow (B := g) (by simp; omega) (fun k hk e => by omega))).trans ((hmod9.toBelow (B := g) (Nat.le_of_lt hg9) (fun k hk e => by
          rcases e with e | e | e | e
          · omega
          · have := ownBase hst9.2 e; omega
          · cases e
          · cases e)).trans (hmod.toBelow (B := g) (Nat.le_trans (Nat.le_of_lt hg9) hmod9.size) (fun k hk e => by omega)))
        refine ⟨rfl, hb.trans hbw, hpar.mod (Mod.below hbw (S := fun k => g ≤ k) (fun k _ h => h)) (by omega), st, a, .inr ⟨hb', tb, lt, v, rfl, rfl, hv, hltn, hps'.mod hmod h1', hst'.mod hmod (fun k hk e => own_ne hst'.2 hblk (by decide) (by rw [hk, e])), own_mod hrow' hmod (fun k hk e => own_ne hrow' hblk (by decide) (by rw [hk, e])), hkb.mod hmod (Blk.ne_ hkb hblk (by decide)), hkt.mod hmod (Blk.ne_ hkt hblk (by decide)), own_mod hrt hmod (fun k hk e => own_ne hrt hblk (by decide) (by rw [hk, e])), by omega, by omega⟩⟩
    · exact absurd h hne
  drew := by
    intro l m w k ⟨hb, hpar, st, a, h⟩
    refine ⟨below_drewN hb k, hpar.drewN k, st, a, ?_⟩
    rcases h with ⟨h1, h2, hps, hst⟩ | ⟨hb', tb, lt, v, h1, h2, h3, h4, hps, hst, q1, q2, q3, q4, q5, q6⟩
    · exact .inl ⟨h1, h2, hps.drewN k, hst.drewN k⟩
    · exact .inr ⟨hb', tb, lt, v, h1, h2, h3, h4, hps.drewN k, hst.drewN k, World.ownsRow.drewN q1 k, q2.drewN k, q3.drewN k, World.ownsRow.drewN q4 k, q5, q6⟩
  trim := by
    intro m w ⟨hb, hpar, st, a, h⟩
    rcases h with ⟨h1, _, _, _⟩ | ⟨hb', tb, lt, v, h1, h2, h3, h4, hps, hst, q1, q2, q3, q4, q5, q6⟩
    · exfalso
      have := hS.ns
      subst h1
      simp [ByteArray.size] at this
    · have hgl := hps.lt
      refine (trimRoot_any (g + 1) g _ a v 0 0 w hps hst).mono ?_
      rintro e w' ⟨rfl, d, st', hd, hps', hblk, hm⟩
      obtain ⟨la, ln, lc⟩ := lt
      obtain rfl : ln = 1 := h4
      obtain ⟨va, vn, vc⟩ := v
      obtain rfl : vn = 1 := h3
      have q4' : w'.ownsRow (g + 1) 89 1 (.slice la 1 lc) 1 [.pointer (some ⟨tb, 0, none⟩)] := own_mod q4 hm (fun q hq e => by have := ownBase q4 hq.symm; omega)
      obtain ⟨ab, cs, hab, _⟩ := row_blk q4' (Nat.succ_pos 0)
      exact ⟨rfl, la, hb.trans (hm.toBelow (B := g) (Nat.le_of_lt hgl) (fun k hk e => by omega)), hpar.mod hm (by omega), _, d, hb', tb, ab, ⟨va, 1, vc⟩, lc, _, hps', rfl, rfl, hab, rfl, q4', hblk, rfl, own_mod q1 hm (fun q hq e => by have := ownBase q1 hq.symm; omega), q6, .inl ⟨rfl, rfl, _, _, _, _, q2.mod hm (by omega), q3.mod hm (by omega)⟩⟩
  at_ := by
    intro ta k w ⟨hb, hpar, r, d, kb, tb, ab, v1, tc, lk, hps, hrp, hroot, hta, htx, _⟩
    exact ⟨by omega, r, tc, hps, htx, parser_no2 o hpar ht⟩
  text := by
    intro ta k w ⟨hb, hpar, r, d, kb, tb, ab, v1, tc, lk, hps, hrp, hroot, hta, htx, hrt, hdoc, hv1, hrow, hgt, hk⟩ hk1
    rcases hk with ⟨rfl, hbk, sl, el, sl2, el2, hkp, hkt⟩ | ⟨rfl, _⟩
    · subst hta
      have hrt2 := hrt
      rw [htx] at hrt2
      obtain ⟨ab', cs, hab, hblk, _, _, _, hcl, _⟩ := row_blk hrt2 (Nat.succ_pos 0)
      simp only [Option.some.injEq, Addr.mk.injEq] at hab
      obtain ⟨rfl, _⟩ := hab
      have hgl := hps.lt
      have hrg : r.parser ≠ g := by rw [hrp]; omega
      refine ⟨ab, 0, tb, ⟨(headC R k0).toArray⟩, rfl, hblk.at_ 0 (hcl 0 (by omega)), hkt.at_ 3 rfl, (hi g r w hps (by rw [hrp]; exact hpar) hrg hbk).mono ?_⟩
      rintro e w' ⟨l, vs, ks, outs, c, em, s2, bk, rfl, hps', hrl, hln, hits, hn, ho, hpr, hout, hok, hm⟩
      have hkt' := hkt.mod hm (by omega)
      refine ⟨l.a, l.n, l.c, rfl, ⟨_, hkt'.at_ 2 rfl⟩, hkt'.free 2, ?_⟩
      have htg : tb ≠ g := by omega
      have hm2 : Mod (fun k => k = tb) w' (w'.setCell ⟨tb, 2, none⟩ (.slice l.a l.n l.c)) := (Mod.refl (fun k => k = tb) w').setCell (p := ⟨tb, 2, none⟩) (.inl rfl) _
      have hm3 := (hm.mono (S' := fun k => k = g ∨ k = tb) (fun _ _ h => .inl h)).trans hm2 (fun _ _ h => .inr h)
      have hg1 : g + 1 ≤ w.heap.size := hgl
      refine ⟨hb.trans (hm3.toBelow (B := g) (Nat.le_of_lt hgl) (fun k hk e => by omega)), hpar.mod hm3 (by omega), _, d, kb, tb, ab, v1, tc, lk, hps'.far (p := ⟨tb, 2, none⟩) (fun e => htg e.symm) _, hrp, hroot, rfl, htx, ?_, ?_, hv1, ?_, hgt, .inr ⟨rfl, sl, el, sl2, el2, .string ⟨(headC R k0).toArray⟩, l, vs, ks, outs, ?_, ?_, ?_, hln, ?_, hn, ho, hpr, hout, hok⟩⟩
      · exact own_mod hrt hm3 (fun q hq e => by
          rcases e with e | e
          · have := ownBase hrt hq.symm; omega
          · subst e; exact own_ne hrt hkt (by decide) hq.symm)
      · exact hdoc.mod hm3 (fun e => by
          rcases e with e | e
          · exact Blk.ne_ hdoc hps (by decide) e
          · exact Blk.ne_ hdoc hkt (by decide) e)
      · exact own_mod hrow hm3 (fun q hq e => by
          rcases e with e | e
          · have := ownBase hrow hq.symm; omega
          · subst e; exact own_ne hrow hkt (by decide) hq.symm)
      · exact hkp.mod hm3 (fun e => by
          rcases e with e | e
          · exact Blk.ne_ hkp hps (by decide) e
          · exact Blk.ne_ hkp hkt (by decide) e)
      · exact hkt'.set_ 2 _
      · exact own_base (own_far hrl (p := ⟨tb, 2, none⟩) (own_ne hrl hkt' (by decide)) _) hg1
      · exact (hits.mod hm2 (fun k hk b cs hbk _ e => by subst e; exact Blk.ne_ hbk hkt' (hok k hk).text rfl)).base hg1
    · omega
set_option maxRecDepth 20000 in
theorem HTML_head (o : Opt) (s R out : List UInt8) (n k0 : Nat) (w : World) (hS : HeadAt ⟨s.toArray⟩ n R k0) (hno : 10 ∉ s ∧ 13 ∉ s ∧ 0 ∉ s) (hi : InlC o (headC R k0) out) (ht : o.tasks = false) (hh : o.headID = false) (hol : out.length ≤ 900000) :
    Calls Tryz.prog 12 #[o.v, .string ⟨s.toArray⟩] w fun e w' => e = .returned (.string ⟨(headOut (Lib.decDigits n) out).toArray⟩) ∧ Below w.heap.size w w' := by
  refine HTML_gen2 o _ w (headOut (Lib.decDigits n) out) (fun pb w1 hbw hblkp => ?_)
  have hsz := hS.size
  have hsl : s.length ≤ 100000 := by rw [sz_mk] at hsz; exact hsz
  have hpb : pb < w1.heap.size := hblkp.lt
  have hho := headOut_len (Lib.decDigits n) out
  have hdl := dec_len n hS.n1 hS.n6
  have hpar : Calls Tryz.prog 33 #[.pointer (some ⟨pb, 0, none⟩), .string ⟨s.toArray⟩] w1 fun e w' => ∃ d c, e = .returned (.tuple #[.pointer (some ⟨d, 0, none⟩), .bool c]) ∧ DocPrints w' d (headOut (Lib.decDigits n) out) ∧ Below w1.heap.size w1 w' := by
    refine (parse_gen2 pb _ w1 1 (HeadInv pb w1.heap.size w1 o s (headC R k0) n) (HeadFin pb w1.heap.size w1 o (headC R k0) out n) (by omega) (idxB_not _ 0 hno.2.2) (headH pb w1.heap.size w1 o s R out n k0 hS ⟨hno.1, hno.2.1⟩ hpb hi ht hh) ?_).mono ?_
    · intro w' bn hps hb
      refine (addBlock_top (w1.heap.size + 1) w1.heap.size (ps0 pb) [] w' 81 (.pointer (some ⟨bn, 0, none⟩)) hps.lt hps ⟨rfl, World.ownsRow_nil _ _ _ _⟩ rfl (by simp)).mono ?_
      rintro e w2 ⟨rfl, v, hps1, hst, _, hm⟩
      refine ⟨rfl, ?_, ?_, v, some ⟨bn, 0, none⟩, .inl ⟨rfl, rfl, hps1, hst⟩⟩
      · exact hb.trans (hm.toBelow (B := w1.heap.size) hb.size (fun k hk e => by
          rcases e with e | e
          · omega
          · simp [ps0, Sl.nil, Value.ownBlock] at e))
      · refine (hblkp.mod (S := fun _ => False) (Mod.below' hb) (fun x => x)).mod hm (fun e => ?_)
        rcases e with e | e
        · omega
        · simp [ps0, Sl.nil, Value.ownBlock] at e
    · rintro e w' ⟨ta, r, k, rfl, hps, w0, ⟨hb, _, r0, d, kb, tb, ab, v1, tc, lk, hps0, _, hroot, _, _, _, hdoc, hv1, hrow, _, hk⟩, rfl⟩
      have h1 := hps.c1
      have h2 := hps0.c1
      rw [show (w0.drewN k).cell? ⟨w1.heap.size, 1, none⟩ = w0.cell? ⟨w1.heap.size, 1, none⟩ from rfl, h2, hroot] at h1
      simp only [Option.some.injEq, Value.pointer.injEq] at h1
      rw [← h1]
      rcases hk with ⟨h, _⟩ | ⟨_, hpar⟩
      · omega
      · refine ⟨d, _, rfl, ⟨0, 0, v1, lk, w1.heap.size + 1, [headV kb], [headOut (Lib.decDigits n) out], hdoc, ?_, by omega, by simp, by omega, rfl, ?_⟩, below_drewN hb k⟩
        · rw [hv1]; exact World.ownsRow.drewN hrow k
        · intro b i y x hbz hy hx
          cases i with
          | zero =>
            simp at hy hx
            subst hy hx
            exact hd_prints _ (w1.heap.size + 1) b kb tb n _ out hS.n1 hS.n6 hbz hpar
          | succ i => simp at hy
  go_enter Tryz.func29, Tryz.ntmps29
  go_wp2_with (go_at_call 33; refine hpar.mono ?_; rintro e w1 ⟨d, c, rfl, hd, hb⟩)
  go_ret
  exact ⟨d, rfl, hd, hb⟩
end Go.Proofs.YtpojmloeadodhaaGreatDoor
/- The text of the law FnHeading, and what it prints. -/


namespace Go.Proofs.YtpojmloeadodhaaGreatDoor
open Go.RowKit
theorem trimR_self {l : List UInt8} (h : ∀ c, l.getLast? = some c → c ≠ 32 ∧ c ≠ 9) : trimR l = l := by
  unfold trimR
  have : l.reverse.dropWhile isST = l.reverse := by
    cases hr : l.reverse with
    | nil => rfl
    | cons a t =>
      have hl : l.getLast? = some a := by
        rw [← List.head?_reverse, hr]; rfl
      obtain ⟨q1, q2⟩ := h a hl
      rw [List.dropWhile_cons, if_neg]
      unfold isST
      simp [q1, q2]
  rw [this, List.reverse_reverse]
theorem trimR_sp (l : List UInt8) : trimR (l ++ [32]) = trimR l := by
  unfold trimR
  rw [List.reverse_append]
  rfl
structure HeadL (l : List UInt8) (n : Nat) : Prop where
  len : l.length ≤ 2000
  chr : ∀ c ∈ l, 32 ≤ c.toNat ∧ c.toNat ≤ 126
  first : ∃ c r, l = c :: r ∧ c ≠ 32
  last : ∀ c, l.getLast? = some c → c ≠ 32
  n1 : 1 ≤ n
  n6 : n ≤ 6
def endL (q : Nat) : List UInt8 := if q = 0 then [] else 32 :: List.replicate q 35
def headTx (l : List UInt8) (n q : Nat) : List UInt8 := List.replicate n 35 ++ [32] ++ slash l ++ endL q
section
variable {l : List UInt8} {n q : Nat}
theorem slash_last (h : l ≠ []) : (slash l).getLast? = l.getLast? := by
  obtain ⟨a, c, rfl⟩ : ∃ a c, l = a ++ [c] := ⟨l.dropLast, l.getLast h, (List.dropLast_concat_getLast h).symm⟩
  rw [slash_snoc, List.getLast?_append, List.getLast?_append]
  have : (slash1 c).getLast? = some c := by unfold slash1; split <;> rfl
  rw [this]
  rfl
theorem headL_ne (h : HeadL l n) : l ≠ [] := by
  obtain ⟨c, r, rfl, _⟩ := h.first
  simp
theorem slash_ne (h : HeadL l n) : slash l ≠ [] := by
  intro e
  have := (slash_len l).1
  rw [e] at this
  have := headL_ne h
  cases l with
  | nil => exact this rfl
  | cons a t => simp at *
theorem head_trimL (h : HeadL l n) (e : List UInt8) : trimL (slash l ++ e) = slash l ++ e := by
  obtain ⟨c, r, rfl, hc⟩ := h.first
  refine trimL_self (fun x hx => ?_)
  have hs : slash (c :: r) = slash1 c ++ slash r := by simp [slash]
  have hchr := h.chr c (List.mem_cons_self ..)
  rw [hs, List.append_assoc] at hx
  unfold slash1 at hx
  split at hx
  · simp at hx
    subst hx
    decide
  · simp at hx
    subst hx
    exact ⟨hc, fun e => by rw [e] at hchr; simp at hchr⟩
theorem slash_trimR (h : HeadL l n) : trimR (slash l) = slash l :=
  trimR_self (fun c hc => by
    rw [slash_last (headL_ne h)] at hc
    have h1 := h.last c hc
    have h2 := h.chr c (List.mem_of_getLast? hc)
    exact ⟨h1, fun e => by rw [e] at h2; simp at h2⟩)
def tailC (q : Nat) : List UInt8 := if q = 0 then [] else [32]
theorem inlC_head (h : HeadL l n) : InlC plainO (slash l ++ tailC q) (esc l) := by
  have hne := headL_ne h
  refine inlC_slash l (tailC q) h.len (List.length_pos_iff.2 hne) h.chr (by unfold tailC; split <;> simp) ?_
  rw [head_trimL h]
  unfold tailC
  split
  · rw [List.append_nil]; exact slash_trimR h
  · rw [trimR_sp]; exact slash_trimR h
theorem headTx_len (l : List UInt8) (n q : Nat) : (headTx l n q).length = n + 1 + (slash l).length + (endL q).length := by
  unfold headTx
  simp only [List.length_append, List.length_replicate, List.length_cons, List.length_nil]
theorem endL_len (q : Nat) : (endL q).length ≤ q + 1 := by unfold endL; split <;> simp
theorem headTx_mem (h : ∀ c ∈ l, 32 ≤ c.toNat ∧ c.toNat ≤ 126) {c : UInt8} (hc : c ∈ headTx l n q) : 32 ≤ c.toNat ∧ c.toNat ≤ 126 := by
  unfold headTx at hc
  rcases List.mem_append.1 hc with hc | hc
  · rcases List.mem_append.1 hc with hc | hc
    · rcases List.mem_append.1 hc with hc | hc
      · rw [(List.mem_replicate.1 hc).2]; decide
      · simp only [List.mem_cons, List.not_mem_nil, or_false] at hc
        subst hc; decide
    · unfold slash at hc
      obtain ⟨x, hx1, hx2⟩ := List.mem_flatMap.1 hc
      have := h x hx1
      unfold slash1 at hx2
      split at hx2
      · simp only [List.mem_cons, List.not_mem_nil, or_false] at hx2
        rcases hx2 with rfl | rfl
        · decide
        · exact this
      · simp only [List.mem_cons, List.not_mem_nil, or_false] at hx2
        subst hx2
        exact this
  · unfold endL at hc
    split at hc
    · cases hc
    · rcases List.mem_cons.1 hc with rfl | hc
      · decide
      · rw [(List.mem_replicate.1 hc).2]; decide
/-- How many bytes stay without the signs # at the end. -/
def headK (l : List UInt8) (q : Nat) : Nat := if q = 0 then (if l.getLast? = some 35 then (slash l).length - 1 else (slash l).length) else (slash l).length + 1
theorem headAt (h : HeadL l n) (hq : q ≤ 100) : HeadAt ⟨(headTx l n q).toArray⟩ n (slash l ++ endL q) (headK l q) := by
  have hlen := headTx_len l n q
  have hsl := slash_len l
  have hl2 := h.len
  have hel := endL_len q
  have hne := headL_ne h
  have hpos : 0 < (slash l).length := List.length_pos_iff.2 (slash_ne h)
  have hsz : (ByteArray.mk (headTx l n q).toArray).size = n + 1 + (slash l).length + (endL q).length := by rw [sz_mk, hlen]
  have hlast := slash_last hne
  refine { size := by rw [hsz]; have := h.n6; omega, n1 := h.n1, n6 := h.n6, ns := by rw [hsz]; omega, tab := fun j => bt_mem _ j (fun z => z ≠ 9) (by decide) (fun c hc e => by have := headTx_mem h.chr hc; omega), h35 := fun j hj => bt_some (c := 35) ?_, h32 := bt_some (c := 32) ?_, text := ?_, kl := ?_, hash := ?_, stop := ?_ }
  · unfold headTx
    rw [List.append_assoc, List.append_assoc, List.getElem?_append_left (by simpa using hj), List.getElem?_replicate, if_pos hj]
  · unfold headTx
    rw [List.append_assoc, List.append_assoc, List.getElem?_append_right (by simp)]
    simp
  · have hd : (headTx l n q).drop (n + 1) = slash l ++ endL q := by
      unfold headTx
      rw [List.append_assoc]
      exact List.drop_left' (by simp)
    show trimR ((headTx l n q).drop (n + 1)) = _
    rw [hd]
    refine trimR_self (fun c hc => ?_)
    by_cases h0 : q = 0
    · unfold endL at hc
      rw [if_pos h0, List.append_nil, hlast] at hc
      have h1 := h.last c hc
      have h2 := h.chr c (List.mem_of_getLast? hc)
      exact ⟨h1, fun e => by rw [e] at h2; simp at h2⟩
    · unfold endL at hc
      rw [if_neg h0, List.getLast?_append] at hc
      have : (32 :: List.replicate q (35 : UInt8)).getLast? = some 35 := by
        rw [List.getLast?_cons, List.getLast?_replicate, if_neg h0]
        rfl
      rw [this] at hc
      cases hc
      decide
  · unfold headK
    rw [List.length_append]
    by_cases h0 : q = 0
    · rw [if_pos h0]
      split <;> omega
    · rw [if_neg h0]
      have : (endL q).length = q + 1 := by unfold endL; rw [if_neg h0]; simp
      omega
  · intro j hj1 hj2
    rw [List.length_append] at hj2
    by_cases h0 : q = 0
    · have he : endL q = [] := by unfold endL; rw [if_pos h0]
      rw [he] at hj2 ⊢
      rw [List.append_nil]
      unfold headK at hj1
      rw [if_pos h0] at hj1
      split at hj1
      · rename_i h35
        refine bt_some (c := 35) ?_
        rw [← hlast, List.getLast?_eq_getElem?] at h35
        simp only [List.length_nil] at hj2
        rw [show j = (slash l).length - 1 from by omega]
        exact h35
      · simp only [List.length_nil] at hj2; omega
    · unfold headK at hj1
      rw [if_neg h0] at hj1
      have he : endL q = 32 :: List.replicate q 35 := by unfold endL; rw [if_neg h0]
      rw [he] at hj2 ⊢
      refine bt_some (c := 35) ?_
      rw [List.getElem?_append_right (by omega)]
      obtain ⟨m, hm⟩ : ∃ m, j - (slash l).length = m + 1 := ⟨j - (slash l).length - 1, by omega⟩
      simp only [List.length_cons, List.length_replicate] at hj2
      rw [hm, List.getElem?_cons_succ, List.getElem?_replicate, if_pos (by omega)]
  · unfold headK
    by_cases h0 : q = 0
    · have he : endL q = [] := by unfold endL; rw [if_pos h0]
      rw [he, List.append_nil, if_pos h0]
      split
      · rename_i h35
        right
        obtain ⟨a, c, rfl⟩ : ∃ a c, l = a ++ [c] := ⟨l.dropLast, l.getLast hne, (List.dropLast_concat_getLast hne).symm⟩
        have hc : c = 35 := by
          rw [List.getLast?_append] at h35
          simpa using h35
        subst hc
        have e1 : slash (a ++ [35]) = slash a ++ [92, 35] := by rw [slash_snoc]; rfl
        rw [e1]
        have hb92 : bt (ByteArray.mk (slash a ++ [92, 35]).toArray) ((slash a ++ [92, 35]).length - 1 - 1) = 92 := bt_some (c := 92) (by
          rw [List.length_append, List.getElem?_append_right (by simp)]
          simp)
        rw [hb92]
        decide
      · rename_i h35
        right
        obtain ⟨x, hx1, _, hx3⟩ := bt_get (t := slash l) (k := (slash l).length - 1) (by omega)
        rw [hx3]
        rw [← List.getLast?_eq_getElem?, hlast] at hx1
        intro e
        exact h35 (by rw [hx1, show x = 35 from UInt8.toNat_inj.1 (by show x.toNat = 35; omega)])
    · rw [if_neg h0]
      right
      have he : endL q = 32 :: List.replicate q 35 := by unfold endL; rw [if_neg h0]
      rw [he, show (slash l).length + 1 - 1 = (slash l).length from by omega]
      have hb32 : bt (ByteArray.mk (slash l ++ (32 :: List.replicate q 35)).toArray) (slash l).length = 32 := bt_some (c := 32) (by
        rw [List.getElem?_append_right (Nat.le_refl _), Nat.sub_self]
        rfl)
      rw [hb32]
      decide
theorem headC_is (h : HeadL l n) : headC (slash l ++ endL q) (headK l q) = slash l ++ tailC q := by
  have hne := headL_ne h
  have hpos : 0 < (slash l).length := List.length_pos_iff.2 (slash_ne h)
  unfold headC
  by_cases h0 : q = 0
  · have he : endL q = [] := by unfold endL; rw [if_pos h0]
    have ht : tailC q = [] := by unfold tailC; rw [if_pos h0]
    rw [he, ht, List.append_nil]
    unfold headK
    rw [if_pos h0]
    split
    · rename_i h35
      rw [if_pos]
      obtain ⟨a, c, rfl⟩ : ∃ a c, l = a ++ [c] := ⟨l.dropLast, l.getLast hne, (List.dropLast_concat_getLast hne).symm⟩
      have hc : c = 35 := by
        rw [List.getLast?_append] at h35
        simpa using h35
      subst hc
      have e1 : slash (a ++ [35]) = slash a ++ [92, 35] := by rw [slash_snoc]; rfl
      have e2 : (slash (a ++ [35])).take ((slash (a ++ [35])).length - 1) = slash a ++ [92] := by
        rw [e1, show slash a ++ [92, 35] = (slash a ++ [92]) ++ [35] from by simp]
        exact List.take_left' (by simp)
      rw [e2]
      refine ⟨trimR_self (fun c hc => ?_), by simp⟩
      rw [List.getLast?_append] at hc
      cases hc
      decide
    · rw [List.take_of_length_le (Nat.le_refl _)]
      split <;> rfl
  · have he : endL q = 32 :: List.replicate q 35 := by unfold endL; rw [if_neg h0]
    have ht : tailC q = [32] := by unfold tailC; rw [if_neg h0]
    have hk : headK l q = (slash l).length + 1 := by unfold headK; rw [if_neg h0]
    have e2 : (slash l ++ (32 :: List.replicate q 35)).take ((slash l).length + 1) = slash l ++ [32] := by
      rw [show slash l ++ (32 :: List.replicate q 35) = (slash l ++ [32]) ++ List.replicate q 35 from by simp]
      exact List.take_left' (by simp)
    rw [he, ht, hk, e2]
    rw [if_neg]
    rintro ⟨h1, _⟩
    rw [trimR_sp, slash_trimR h] at h1
    have := congrArg List.length h1
    simp at this
end
end Go.Proofs.YtpojmloeadodhaaGreatDoor
