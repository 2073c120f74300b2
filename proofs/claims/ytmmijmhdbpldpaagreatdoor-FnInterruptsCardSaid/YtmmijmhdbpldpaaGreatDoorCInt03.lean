/- Texts of this proof, joined: A line that begins a block while only the root is open, A line is read: the open blocks are asked in turn, then the starters; if none takes it, a paragraph does, The top block of the stack is closed: what it builds goes to the one below it. -/
import Derived.Test.YtmmijmhdbpldpaaGreatDoorCInt02
import Derived.Test.YtmmijmhdbpldpaaGreatDoorCInt01
import Derived.Shelf.Bytes.WriteStringKept
import Derived.Shelf.Bytes.WriteByteKept
import Derived.Shelf.Bytes.String
import Derived.Shelf.Bytes.Len
import Derived.Shelf.Bytes.Bytes
import Derived.Ground.NamesProg
import Derived.Test.YtmmijmhdbpldpaaGreatDoorProg
/- A line that begins a block while only the root is open. -/


namespace Go.Proofs.YtmmijmhdbpldpaaGreatDoor
open Go.RowKit
/-- The functions that begin blocks, in their order. -/
def newsL : List FuncId := [85, 86, 87, 88, 89, 90, 91, 92]
def newsC : Array Value := #[.func (.func 85) #[] #[], .func (.func 86) #[] #[], .func (.func 87) #[] #[], .func (.func 88) #[] #[], .func (.func 89) #[] #[], .func (.func 90) #[] #[], .func (.func 91) #[] #[], .func (.func 92) #[] #[]]
set_option maxRecDepth 20000 in
theorem news_any (w : World) : Calls Tryz.prog 61 #[] w fun e w' => ∃ n, e = .returned (.slice (some ⟨n, 0, none⟩) 8 8) ∧ w.heap.size ≤ n ∧ Blk w' n 124 newsC ∧ Below w.heap.size w w' := by
  go_enter Tryz.func61, Tryz.ntmps61
  go_wp2
  go_ret
  exact ⟨_, rfl, Nat.le_refl _, Blk.new _ _ _, (Below.refl _ _).alloc (Nat.le_refl _) _⟩
/-- What holds while the starters are tried: how many have declined. -/
def AddR (g lb n k : Nat) (r : PSr) (text : ByteArray) (nl : Int) (w : World) (t : Value) (wr : World) : Prop :=
  ∃ i : Nat, i ≤ k ∧ t = .int .i64 i ∧ Blk wr n 124 newsC ∧ IsLn wr lb 0 0 text nl ∧ IsPS wr g { r with lineDepth := 0 } ∧ Mod (fun k => k = g) w wr
def AddOneP (w : World) (Q : World → Prop) (e : Ending) (w' : World) : Prop :=
  e = .returned (.tuple #[]) ∧ ∃ w1 lb cs, Q w1 ∧ w.heap.size ≤ lb ∧ Blk w1 lb 104 cs ∧ Mod (fun k => k = lb) w1 w'
set_option maxRecDepth 20000 in
set_option maxHeartbeats 8000000 in
theorem addLine_one (g k : Nat) (r : PSr) (text : ByteArray) (nl : Int) (w : World) (Q : World → Prop) (hps : IsPS w g r) (hn : r.stack.n = 1) (hs : text.size ≤ 1000000) (hk : k < 8) (hbl : (trimL text.data.toList).isEmpty = false)
    (hdec : ∀ i f wr, i < k → newsL[i]? = some f → IsPS wr g { r with lineDepth := 0 } → Mod (fun k => k = g) w wr →
      Calls Tryz.prog f #[.pointer (some ⟨g, 0, none⟩), lnV 0 0 text nl] wr fun e w' => e = .returned (.tuple #[lnV 0 0 text nl, .bool false]) ∧ Below wr.heap.size wr w')
    (hacc : ∀ f wr, newsL[k]? = some f → IsPS wr g { r with lineDepth := 0 } → Mod (fun k => k = g) w wr →
      Calls Tryz.prog f #[.pointer (some ⟨g, 0, none⟩), lnV 0 0 text nl] wr fun e w' => e = .returned (.tuple #[lnV 0 0 ⟨#[]⟩ 0, .bool true]) ∧ Q w' ∧ wr.heap.size ≤ w'.heap.size ∧ ∀ lb cs, Blk wr lb 104 cs → Blk w' lb 104 cs) :
    Calls Tryz.prog 54 #[.pointer (some ⟨g, 0, none⟩), lnV 0 0 text nl] w (AddOneP w Q) := by
  have HDEC := hid hdec
  have HACC := hid hacc
  clear hdec hacc
  have hg := hps.lt
  have c5 := hps.c5
  have c4 := hps.c4
  rw [hn] at c4
  have f1 := hps.free
  have hgn : ¬ g = w.heap.size := by omega
  go_enter Tryz.func54, Tryz.ntmps54
  go_wp2_with fail
  go_step3
  go_wp2_with fail
  refine wp_loop_rounds 1 ?_
  rw [rounds_succ]
  go_wp2_with fail
  go_quiet (fail)
  go_wp2_with fail
  refine (isBlank_any w.heap.size text 0 _ (Nat.zero_le _) (by omega) (by simp [go_sem]) (by simp [go_sem])).mono ?_
  rintro e w1 ⟨rfl, n, rfl⟩
  rw [List.drop_zero, hbl, World.drewN_drewN]
  have hps1 : Hid (IsPS _ g { r with lineDepth := 0 }) := hid (((hps.set5 0).alloc (.cells #[.int .i64 0, .int .i64 0, .int .i64 0, .string text, .int .u8 nl] 104)).drewN (nq + n))
  have hl1 : Hid (Blk (World.drewN (World.alloc (w.setCell ⟨g, 5, none⟩ (.int .i64 0)) (.cells #[.int .i64 0, .int .i64 0, .int .i64 0, .string text, .int .u8 nl] 104)) (nq + n)) w.heap.size 104 #[.int .i64 0, .int .i64 0, .int .i64 0, .string text, .int .u8 nl]) := hid ((Blk.new' (by simp [World.setCell])).drewN _)
  have hm1 : Hid (Mod (fun k => k = g) w _) := hid ((((Mod.refl (fun k => k = g) w).setCell (p := ⟨g, 5, none⟩) (.inl rfl) (.int .i64 0)).alloc (.cells #[.int .i64 0, .int .i64 0, .int .i64 0, .string text, .int .u8 nl] 104)).drewN (nq + n))
  generalize World.drewN _ (nq + n) = wa at hps1 hl1 hm1 ⊢
  clear c4 c5 f1
  go_wp2_with fail
  go_step3
  go_wp2_with fail
  refine (news_any _).mono ?_
  rintro e w2 ⟨nb, rfl, hnb, hblk, hb⟩
  have m2 := Mod.below' (S := fun k => k = g) hb
  have m2' := Mod.below' (S := fun _ => False) hb
  have hps2 := hid (hps1.out.mod (S := fun _ => False) m2' (fun h => h))
  have hl2 : Hid (IsLn w2 w.heap.size 0 0 text nl) := hid (hl1.out.mod (S := fun _ => False) m2' (fun h => h))
  have hm2 := hid (hm1.out.trans m2 (fun _ _ h => h))
  have hblk2 := hid hblk
  clear hblk hb m2 m2' hps1 hl1 hm1
  go_wp2_with fail
  go_loopw [88] (fun t wr => AddR g w.heap.size nb k r text nl w t wr) (fun t _ => 8 - (intOf t).toNat)
  case atStart => exact ⟨0, Nat.zero_le _, rfl, hblk2.out, hl2.out, hps2.out, hm2.out⟩
  case round =>
    obtain ⟨i, hik, rfl, hN, hL, hP, hM⟩ := hrel
    clear hblk2 hl2 hps2 hm2
    unfold newsC at hN
    have q0 := hN.at_ 0 rfl
    have q1 := hN.at_ 1 rfl
    have q2 := hN.at_ 2 rfl
    have q3 := hN.at_ 3 rfl
    have q4 := hN.at_ 4 rfl
    have q5 := hN.at_ 5 rfl
    have q6 := hN.at_ 6 rfl
    have q7 := hN.at_ 7 rfl
    have c0 := hL.c0
    have c1 := hL.c1
    have c2 := hL.c2
    have c3 := hL.c3
    have c4 := hL.c4
    have fl := Blk.free hL
    have HN := hid hN
    have HL := hid hL
    have HP := hid hP
    have HM := hid hM
    clear hN hL hP hM
    rcases Nat.lt_or_ge i k with hlt | hge
    · have hi : i = 0 ∨ i = 1 ∨ i = 2 ∨ i = 3 ∨ i = 4 ∨ i = 5 ∨ i = 6 := by omega
      rcases hi with rfl | rfl | rfl | rfl | rfl | rfl | rfl
      all_goals
        go_wp2_with fail
        refine (HDEC.out _ _ _ hlt rfl HP.out HM.out).mono ?_
        rintro e w3 ⟨rfl, hb3⟩
        have m3 := Mod.below' (S := fun _ => False) hb3
        have HN3 := hid (HN.out.mod m3 (fun h => h))
        have HL3 := hid (HL.out.mod m3 (fun h => h))
        have HP3 := hid (HP.out.mod m3 (fun h => h))
        have HM3 := hid (HM.out.trans m3 (fun _ _ h => h.elim))
        clear m3 hb3 q0 q1 q2 q3 q4 q5 q6 q7 c0 c1 c2 c3 c4 fl
        unfold lnV
        go_wp2_with fail
        refine ⟨?_, by simp [intOf]⟩
        iterate 25 (apply Exists.intro)
        refine ⟨?_, rfl⟩
        exact ⟨_ + 1, hlt, rfl, HN3.out.alloc _, HL3.out.alloc _, HP3.out.alloc _, HM3.out.alloc _⟩
    · obtain rfl : i = k := by omega
      have hi : i = 0 ∨ i = 1 ∨ i = 2 ∨ i = 3 ∨ i = 4 ∨ i = 5 ∨ i = 6 ∨ i = 7 := by omega
      rcases hi with rfl | rfl | rfl | rfl | rfl | rfl | rfl | rfl
      all_goals
        go_wp2_with fail
        refine (HACC.out _ _ rfl HP.out HM.out).mono ?_
        rintro e w3 ⟨rfl, hq, hsz, hkeep⟩
        have hl3 := hkeep _ _ HL.out
        have hwz : w.heap.size ≤ w3.heap.size := Nat.le_trans HM.out.size hsz
        have fl3 := Blk.free hl3
        have d0 := Blk.at_ hl3 0 rfl
        have d1 := Blk.at_ hl3 1 rfl
        have d2 := Blk.at_ hl3 2 rfl
        have d3 := Blk.at_ hl3 3 rfl
        have d4 := Blk.at_ hl3 4 rfl
        have hlt3 := Blk.lt hl3
        have HQ := hid hq
        have HL3 := hid hl3
        clear hq hsz hkeep hl3 q0 q1 q2 q3 q4 q5 q6 q7 c0 c1 c2 c3 c4 fl
        unfold lnV
        go_wp2_with fail
        have hln : Hid (Blk _ w.heap.size 104 _) := hid (Blk.alloc (line_zero HL3.out) (.cells #[.int .i64 0, .int .i64 0, .int .i64 0, .string ⟨#[]⟩, .int .u8 0] 104))
        have hmy : Hid (Mod (fun k => k = w.heap.size) w3 _) := hid ((((((Mod.refl (fun k => k = w.heap.size) w3).setCell (p := ⟨w.heap.size, 0, none⟩) (.inl rfl) (.int .i64 0)).setCell (p := ⟨w.heap.size, 1, none⟩) (.inl rfl) (.int .i64 0)).setCell (p := ⟨w.heap.size, 2, none⟩) (.inl rfl) (.int .i64 0)).setCell (p := ⟨w.heap.size, 3, none⟩) (.inl rfl) (.string ⟨#[]⟩)).setCell (p := ⟨w.heap.size, 4, none⟩) (.inl rfl) (.int .u8 0) |>.alloc (.cells #[.int .i64 0, .int .i64 0, .int .i64 0, .string ⟨#[]⟩, .int .u8 0] 104))
        generalize World.alloc _ _ = wy at hln hmy ⊢
        clear d0 d1 d2 d3 d4 fl3
        refine (isBlank_any w.heap.size ⟨#[]⟩ 0 wy (Nat.zero_le _) (by simp [ByteArray.size]) (hln.out.at_ 1 rfl) (hln.out.at_ 3 rfl)).mono ?_
        rintro e w4 ⟨rfl, n4, rfl⟩
        have hE : (trimL (List.drop 0 (ByteArray.mk #[]).data.toList)).isEmpty = true := rfl
        rw [hE]
        go_wp2_with fail
        all_goals (try rw [Exit.noGoto_ret])
        go_returns
        exact ⟨rfl, w3, w.heap.size, _, HQ.out, Nat.le_refl _, HL3.out, hmy.out.drewN n4⟩
end Go.Proofs.YtmmijmhdbpldpaaGreatDoor
/- A line is read: the open blocks are asked in turn, then the starters; if none takes it, a paragraph does. -/

namespace Go.Proofs.YtmmijmhdbpldpaaGreatDoor
open Go.RowKit
/-- A line without tabs, read as far as i. -/
structure Ln where
  i : Nat
  s : ByteArray
  nl : Int
@[reducible] def Ln.v (l : Ln) : Value := lnV l.i 0 l.s l.nl
@[reducible] def Ln.C (l : Ln) : Array Value := #[.int .i64 0, .int .i64 l.i, .int .i64 0, .string l.s, .int .u8 l.nl]
def Ln.ok (l : Ln) : Prop := l.i ≤ l.s.size ∧ l.s.size ≤ 1000000
def Ln.blank (l : Ln) : Bool := (trimL (l.s.data.toList.drop l.i)).isEmpty
def Ln.nil : Ln := ⟨0, ⟨#[]⟩, 0⟩
theorem Ln.nil_blank : Ln.nil.blank = true := rfl
theorem Ln.nil_ok : Ln.nil.ok := ⟨Nat.le_refl _, by decide⟩
/-- What differs are lines' boxes from base on, and what is new. -/
def LnKept (base : Nat) (w w' : World) : Prop := Mod (fun k => base ≤ k ∧ ∃ cs, Blk w k 104 cs) w w'
theorem LnKept.refl (base : Nat) (w : World) : LnKept base w w := Mod.refl _ _
theorem LnKept.trans {base : Nat} {a b c : World} (h : LnKept base a b) (h' : LnKept base b c) : LnKept base a c := by
  refine ⟨h'.os.trans h.os, h'.tape.trans h.tape, h'.output.trans h.output, Nat.le_trans h.size h'.size, fun k hk hn => ?_⟩
  have h1 := h.block k hk hn
  refine (h'.block k (Nat.lt_of_lt_of_le hk h.size) (fun ⟨x, cs, hx⟩ => hn ⟨x, cs, ?_⟩)).trans h1
  unfold Blk at hx ⊢
  rw [← h1]; exact hx
theorem LnKept.alloc {base : Nat} {a w : World} (h : LnKept base a w) (o : Obj) : LnKept base a (w.alloc o) := h.trans ((Mod.refl _ _).alloc o)
theorem LnKept.drewN {base : Nat} {a w : World} (h : LnKept base a w) (n : Nat) : LnKept base a (w.drewN n) := h.trans ((Mod.refl _ _).drewN n)
theorem LnKept.below {base : Nat} {a w : World} (h : Below a.heap.size a w) : LnKept base a w := Mod.below' h
/-- A line's box is filled anew. -/
theorem LnKept.fill {base lb : Nat} {w : World} {cs : Array Value} (hb : base ≤ lb) (h : Blk w lb 104 cs) (l : Ln) : LnKept base w (((((w.setCell ⟨lb, 0, none⟩ (.int .i64 0)).setCell ⟨lb, 1, none⟩ (.int .i64 l.i)).setCell ⟨lb, 2, none⟩ (.int .i64 0)).setCell ⟨lb, 3, none⟩ (.string l.s)).setCell ⟨lb, 4, none⟩ (.int .u8 l.nl)) := by
  refine (((((Mod.refl _ _).setCell (p := ⟨lb, 0, none⟩) ?_ _).setCell (p := ⟨lb, 1, none⟩) ?_ _).setCell (p := ⟨lb, 2, none⟩) ?_ _).setCell (p := ⟨lb, 3, none⟩) ?_ _).setCell (p := ⟨lb, 4, none⟩) ?_ _
  all_goals exact .inl ⟨hb, cs, h⟩
theorem Ln.fill {w : World} {lb : Nat} {a0 a1 a2 a3 a4 : Value} (h : Blk w lb 104 #[a0, a1, a2, a3, a4]) (l : Ln) : Blk (((((w.setCell ⟨lb, 0, none⟩ (.int .i64 0)).setCell ⟨lb, 1, none⟩ (.int .i64 l.i)).setCell ⟨lb, 2, none⟩ (.int .i64 0)).setCell ⟨lb, 3, none⟩ (.string l.s)).setCell ⟨lb, 4, none⟩ (.int .u8 l.nl)) lb 104 l.C := ln_store h l.i 0 l.nl l.s
theorem Blk.fillFar {w : World} {lb b : Nat} {t : TypeId} {cs : Array Value} (h : Blk w b t cs) (hne : b ≠ lb) (l : Ln) : Blk (((((w.setCell ⟨lb, 0, none⟩ (.int .i64 0)).setCell ⟨lb, 1, none⟩ (.int .i64 l.i)).setCell ⟨lb, 2, none⟩ (.int .i64 0)).setCell ⟨lb, 3, none⟩ (.string l.s)).setCell ⟨lb, 4, none⟩ (.int .u8 l.nl)) b t cs :=
  ((((h.far (p := ⟨lb, 0, none⟩) hne _).far (p := ⟨lb, 1, none⟩) hne _).far (p := ⟨lb, 2, none⟩) hne _).far (p := ⟨lb, 3, none⟩) hne _).far (p := ⟨lb, 4, none⟩) hne _
theorem Blk.lnKept {base b : Nat} {w w' : World} {t : TypeId} {cs : Array Value} (h : Blk w b t cs) (hk : LnKept base w w') (ht : t ≠ 104) : Blk w' b t cs :=
  h.mod hk (fun ⟨_, _, h'⟩ => Blk.ne_ h h' ht rfl)
theorem IsPS.lnKept {base g : Nat} {w w' : World} {r : PSr} (h : IsPS w g r) (hk : LnKept base w w') : IsPS w' g r := Blk.lnKept h hk (by decide)
theorem own_lnKept {base b : Nat} {w w' : World} {e : TypeId} {size n : Nat} {v : Value} {xs : List Value} (h : w.ownsRow b e size v n xs) (hk : LnKept base w w') (ht : e ≠ 104) : w'.ownsRow b e size v n xs :=
  own_mod h hk (fun _ hk' ⟨_, _, h'⟩ => own_ne h h' ht hk'.symm)
theorem IsStack.lnKept {base B : Nat} {w w' : World} {s : Sl} {es : List Ent} (h : IsStack w B s es) (hk : LnKept base w w') : IsStack w' B s es := ⟨h.1, own_lnKept h.2 hk (by decide)⟩
theorem Below.lnKept {base B : Nat} {a w w' : World} (h : Below B a w) (hk : LnKept base w w') (hB : B ≤ base) (hz : B ≤ w.heap.size) : Below B a w' := h.trans (Mod.toBelow hk hz (fun k hlt ⟨hb, _⟩ => by omega))
/-- Whether the open block's last line is this one: the line was not blank, and it was taken, or cut. -/
def updB (l l' : Ln) (ok : Bool) : Bool := !l.blank && (ok || !(decide ((l'.i : Int) = l.i) && (decide (l'.s.toList = l.s.toList) && decide (l'.nl = l.nl))))
/-- The world with the end line of entry k + 1 put in, where that is due. -/
def updW (sb k : Nat) (lineno : Int) (b : Bool) (w : World) : World := if b then w.setCell ⟨sb, (k + 1) * 4 + 3, none⟩ (.int .i64 lineno) else w
/-- What is known of a parseState while a line is read. -/
def AtLine (g sb cap n : Nat) (lineno : Int) (k : Nat) (w : World) : Prop :=
  ∃ r cs, IsPS w g r ∧ r.lineDepth = k ∧ r.lineno = lineno ∧ r.stack = ⟨some ⟨sb, 0, none⟩, n, cap⟩ ∧ Blk w sb 121 cs ∧ n ≤ cap ∧ cap * 4 ≤ cs.size ∧ n ≤ 1000000
/-- What the blocks and the starters do with a line, from level 0 on. -/
structure AddH (g base sb cap n : Nat) (lineno : Int) (J E : Nat → Ln → World → Prop) (P : Nat → Ln → Ln → Bool → World → Prop) (Q : World → Prop) : Prop where
  pos : 0 < n
  atJ : ∀ k l w, J k l w → AtLine g sb cap n lineno k w ∧ k < n
  atP : ∀ k l l' ok w, P k l l' ok w → AtLine g sb cap n lineno k w
  atE : ∀ d l w, E d l w → AtLine g sb cap n lineno d w ∧ d < n
  keepJ : ∀ k l w w', J k l w → LnKept base w w' → J k l w'
  keepP : ∀ k l l' ok w w', P k l l' ok w → LnKept base w w' → P k l l' ok w'
  keepE : ∀ d l w w', E d l w → LnKept base w w' → E d l w'
  keepQ : ∀ w w', Q w → LnKept base w w' → Q w'
  ext : ∀ k l w, J k l w → k + 1 < n → l.ok → ∃ bt bv f x, w.cell? ⟨sb, (k + 1) * 4, none⟩ = some (.iface bt bv) ∧ (∀ W, (method 475 bt bv "pub-paratext/pub/rscmarkdown.extend").run Tryz.prog W = .ok (f, x) W) ∧ (∀ args W, (callFunc f args).run Tryz.prog W = .ok (.enter f args) W) ∧
    ∃ l' ok, Ln.ok l' ∧ Calls Tryz.prog f #[x, .pointer (some ⟨g, 0, none⟩), l.v] w fun e w' => e = .returned (.tuple #[l'.v, .bool ok]) ∧ P k l l' ok w' ∧ w.heap.size ≤ w'.heap.size ∧ ∀ lb cs, base ≤ lb → Blk w lb 104 cs → Blk w' lb 104 cs
  yes : ∀ k l l' w, P k l l' true w → k + 1 < n → J (k + 1) l' ((updW sb k lineno (updB l l' true) w).setCell ⟨g, 5, none⟩ (.int .i64 ((k : Int) + 1)))
  no : ∀ k l l' w, P k l l' false w → k + 1 < n → E k l' (updW sb k lineno (updB l l' false) w)
  last : ∀ l w, J (n - 1) l w → E (n - 1) l w
  blank : ∀ d l w, E d l w → l.blank = true → Calls Tryz.prog 55 #[.pointer (some ⟨g, 0, none⟩), .int .i64 ((d : Int) + 1)] w fun e w' => e = .returned (.tuple #[]) ∧ Q w'
  start : ∀ d l, l.blank = false → l.ok → ∃ k, k ≤ 8 ∧ (∀ i f w, i < k → newsL[i]? = some f → E d l w → Calls Tryz.prog f #[.pointer (some ⟨g, 0, none⟩), l.v] w fun e w' => e = .returned (.tuple #[l.v, .bool false]) ∧ LnKept base w w' ∧ ∀ lb cs, base ≤ lb → Blk w lb 104 cs → Blk w' lb 104 cs) ∧
    (∀ f w, newsL[k]? = some f → E d l w → Calls Tryz.prog f #[.pointer (some ⟨g, 0, none⟩), l.v] w fun e w' => e = .returned (.tuple #[Ln.nil.v, .bool true]) ∧ Q w' ∧ w.heap.size ≤ w'.heap.size ∧ ∀ lb cs, base ≤ lb → Blk w lb 104 cs → Blk w' lb 104 cs) ∧
    (k = 8 → ∀ w, E d l w → Calls Tryz.prog 62 #[.pointer (some ⟨g, 0, none⟩), l.v] w fun e w' => (∃ v, e = .returned v) ∧ Q w')
/-- How far the open blocks have been asked. -/
def PreR (base lb n : Nat) (J : Nat → Ln → World → Prop) (wr : World) : Prop := ∃ k l, J k l wr ∧ k < n ∧ l.ok ∧ Blk wr lb 104 l.C ∧ base ≤ lb
def AskedR (base lb : Nat) (E : Nat → Ln → World → Prop) (wr : World) : Prop := ∃ d l, E d l wr ∧ l.ok ∧ Blk wr lb 104 l.C ∧ base ≤ lb
def StartR (nb lb m d : Nat) (l : Ln) (E : Nat → Ln → World → Prop) (t : Value) (wr : World) : Prop := ∃ i : Nat, i ≤ m ∧ t = .int .i64 i ∧ Blk wr nb 124 newsC ∧ Blk wr lb 104 l.C ∧ E d l wr
def depthOf (w : World) (g : Nat) : Nat := match w.cell? ⟨g, 5, none⟩ with
  | some v => (intOf v).toNat
  | none => 0
theorem depthOf_ps {w : World} {g : Nat} {r : PSr} {k : Nat} (h : IsPS w g r) (hk : r.lineDepth = k) : depthOf w g = k := by
  unfold depthOf; rw [h.c5, hk]; simp [intOf]
set_option maxRecDepth 20000 in
set_option maxHeartbeats 8000000 in
theorem addLine_gen (g sb cap n : Nat) (lineno : Int) (J E : Nat → Ln → World → Prop) (P : Nat → Ln → Ln → Bool → World → Prop) (Q : World → Prop) (l0 : Ln) (w : World) (r : PSr) (hps : IsPS w g r) (hl0 : l0.ok) (hi0 : l0.i = 0)
    (H : AddH g w.heap.size sb cap n lineno J E P Q) (h0 : J 0 l0 (w.setCell ⟨g, 5, none⟩ (.int .i64 0))) :
    Calls Tryz.prog 54 #[.pointer (some ⟨g, 0, none⟩), l0.v] w fun e w' => e = .returned (.tuple #[]) ∧ Q w' := by
  have HH := hid H
  have HJ0 := hid h0
  have hg := hps.lt
  have c5 := hps.c5
  have f1 := hps.free
  have hgn : ¬ g = w.heap.size := by omega
  clear H h0 hps
  go_enter Tryz.func54, Tryz.ntmps54
  go_wp2_with fail
  go_step3
  go_upto_block 0 with fail
  go_cut [] (fun wx => AskedR w.heap.size w.heap.size E wx)
  case first =>
    go_wp2_with fail
    go_loopw [] (fun wr => PreR w.heap.size w.heap.size n J wr) (fun wr => n - depthOf wr g)
    case atStart => exact ⟨0, l0, HH.out.keepJ _ _ _ _ HJ0.out ((LnKept.refl _ _).alloc _), HH.out.pos, hl0, (by rw [show l0.C = #[.int .i64 0, .int .i64 0, .int .i64 0, .string l0.s, .int .u8 l0.nl] from by unfold Ln.C; rw [hi0]; rfl]; exact Blk.new' (by simp [World.setCell])), Nat.le_refl _⟩
    case round =>
      clear c5 f1
      obtain ⟨k, l, hj, hk, hlok, hbox, hbb⟩ := hrel
      have HJ := hid hj
      have HBOX := hid hbox
      have HOK := hid hlok
      clear hj hbox hlok hbb
      obtain ⟨⟨r1, cs, hps, hd, hln, hst, hsb, hcap, hcs, hn⟩, hkn⟩ := HH.out.atJ k l wr HJ.out
      have c5 := hps.c5
      have c4 := hps.c4
      rw [hd] at c5
      rw [hst] at c4
      dsimp only at c4
      have hdep := hid (depthOf_ps hps hd)
      have hisl : IsLn wr w.heap.size l.i 0 l.s l.nl := HBOX.out
      have b0 := hisl.c0
      have b1 := hisl.c1
      have b2 := hisl.c2
      have b3 := hisl.c3
      have b4 := hisl.c4
      clear hisl
      have HPS := hid hps
      have HSB := hid hsb
      have hbg : ¬ w.heap.size = g := by omega
      have hlb := Blk.lt HBOX.out
      clear hps hsb hd hln hst
      by_cases hlt : k + 1 < n
      · go_wp2_with fail
        go_quiet (fail)
        have HJa : Hid (J k l (wr.drewN nq)) := hid (HH.out.keepJ _ _ _ _ HJ.out ((LnKept.refl _ _).drewN _))
        have HLa : Hid (IsLn (wr.drewN nq) w.heap.size l.i 0 l.s l.nl) := hid HBOX.out
        have HPa : Hid (IsPS (wr.drewN nq) g r1) := hid HPS.out
        have HSa : Hid (Blk (wr.drewN nq) sb 121 cs) := hid HSB.out
        have hza : w.heap.size < (wr.drewN nq).heap.size := hlb
        clear c4 c5 b0 b1 b2 b3 b4 HJ HBOX HPS HSB hlb
        generalize wr.drewN nq = wa at HJa HLa HPa HSa hza ⊢
        have b0 := HLa.out.c0
        have b1 := HLa.out.c1
        have b2 := HLa.out.c2
        have b3 := HLa.out.c3
        have b4 := HLa.out.c4
        go_wp2_with fail
        have hJb : Hid (J k l (World.alloc _ _)) := hid (HH.out.keepJ _ _ _ _ HJa.out ((LnKept.refl _ _).alloc (.cells #[.int .i64 0, .int .i64 l.i, .int .i64 0, .string l.s, .int .u8 l.nl] 104)))
        have hLb : Hid (Blk (World.alloc _ _) w.heap.size 104 l.C) := hid (Blk.alloc HLa.out (.cells #[.int .i64 0, .int .i64 l.i, .int .i64 0, .string l.s, .int .u8 l.nl] 104))
        have hOb : Hid (Blk (World.alloc _ _) wa.heap.size 104 l.C) := hid (Blk.new wa 104 #[.int .i64 0, .int .i64 l.i, .int .i64 0, .string l.s, .int .u8 l.nl])
        clear b0 b1 b2 b3 b4 HJa HLa HPa HSa
        generalize World.alloc _ _ = wb at hJb hLb hOb ⊢
        have hJd : Hid (J k l wb.drew) := hid (HH.out.keepJ _ _ _ _ hJb.out ((LnKept.refl _ _).drewN 1))
        obtain ⟨⟨r2, cs2, hps2, hd2, hln2, hst2, hsb2, hcap2, hcs2, hn2⟩, _⟩ := HH.out.atJ k l wb hJb.out
        obtain ⟨bt, bv, f, x, hcell, hmeth, hent, l', ok, hlok', hcall⟩ := HH.out.ext k l wb.drew hJd.out hlt HOK.out
        have q4 := hps2.c4
        have q5 := hps2.c5
        rw [hst2] at q4
        rw [hd2] at q5
        dsimp only at q4
        have x4 : wb.drew.cell? ⟨g, 4, none⟩ = some (.slice (some ⟨sb, 0, none⟩) n cap) := q4
        have x5 : wb.drew.cell? ⟨g, 5, none⟩ = some (.int .i64 k) := q5
        have q0 : wb.cell? ⟨sb, (k + 1) * 4, none⟩ = some (.iface bt bv) := hcell
        have hLd : IsLn wb w.heap.size l.i 0 l.s l.nl := hLb.out
        have b0 := hLd.c0
        have b1 := hLd.c1
        have b2 := hLd.c2
        have b3 := hLd.c3
        have b4 := hLd.c4
        have hcall' : Calls Tryz.prog f #[x, .pointer (some ⟨g, 0, none⟩), .agg #[.int .i64 0, .int .i64 l.i, .int .i64 0, .string l.s, .int .u8 l.nl]] wb.drew (fun e w' => e = .returned (.tuple #[.agg #[.int .i64 0, .int .i64 l'.i, .int .i64 0, .string l'.s, .int .u8 l'.nl], .bool ok]) ∧ P k l l' ok w' ∧ wb.drew.heap.size ≤ w'.heap.size ∧ ∀ lb cs, w.heap.size ≤ lb → Blk wb.drew lb 104 cs → Blk w' lb 104 cs) := hcall
        have HCALL := hid hcall'
        clear hcall'
        have HOK' := hid hlok'
        clear hcall hps2 hd2 hln2 hst2 hsb2 hcap2 hcs2 hLd hlok'
        have e1 : IntKind.i64.wrap ((k : Int) + 1) = (k : Int) + 1 := IntWalk.i64_in _ (by omega)
        have e2 : (0 : Int) ≤ (k : Int) + 1 := by omega
        have e3 : ((k : Int) + 1).toNat = k + 1 := by omega
        have e4 : (k : Int) + 1 < (n : Int) := by omega
        go_cut [5] (fun t5 wx => t5 = .bool ok ∧ P k l l' ok wx ∧ Blk wx w.heap.size 104 l'.C ∧ Blk wx wa.heap.size 104 l.C)
        case first =>
          go_region_with (first
            | (refine HCALL.out.mono ?_; rintro e w3 ⟨rfl, hp3, hz3, hk3⟩
               have hb3 := hk3 _ _ (Nat.le_refl _) (show Blk wb.drew w.heap.size 104 _ from hLb.out)
               have ho3 := hk3 _ _ (Nat.le_of_lt hza) (show Blk wb.drew wa.heap.size 104 _ from hOb.out)
               have hl3 : IsLn w3 w.heap.size l.i 0 l.s l.nl := hb3
               have z0 := hl3.c0
               have z1 := hl3.c1
               have z2 := hl3.c2
               have z3 := hl3.c3
               have z4 := hl3.c4
               have fz := hb3.free))
          all_goals go_wp2
          all_goals go_meet
          all_goals exact ⟨rfl, HH.out.keepP _ _ _ _ _ _ hp3 (LnKept.fill (Nat.le_refl _) hb3 l'), Ln.fill hb3 l', Blk.fillFar ho3 (Nat.ne_of_gt hza) l'⟩
        case rest =>
          obtain ⟨rfl, hp, hbx, hox⟩ := hcut
          clear q4 q5 q0 x4 x5 b0 b1 b2 b3 b4 e1 e2 e3 e4 hcell hmeth hent HCALL hJd hLb hOb hJb
          have HP := hid hp
          have HBX := hid hbx
          have HOX := hid hox
          clear hp hbx hox
          obtain ⟨r3, cs3, hps3, hd3, hln3, hst3, hsb3, hcap3, hcs3, hn3⟩ := HH.out.atP k l l' ok wc HP.out
          have HPS3 := hid hps3
          have HD3 := hid hd3
          have HN3 := hid hln3
          have HT3 := hid hst3
          have HSB3 := hid hsb3
          clear hps3 hd3 hln3 hst3 hsb3
          go_wp2_with fail
          refine (isBlank_any wa.heap.size l.s l.i _ HOK.out.1 (by have := HOK.out.2; omega) (HOX.out.at_ 1 rfl) (HOX.out.at_ 3 rfl)).mono ?_
          rintro e w5 ⟨rfl, n5, rfl⟩
          have hbl0 : (trimL (l.s.data.toList.drop l.i)).isEmpty = l.blank := rfl
          rw [hbl0]
          have hP5 : Hid (P k l l' ok (wc.drewN n5)) := hid (HH.out.keepP _ _ _ _ _ _ HP.out ((LnKept.refl _ _).drewN _))
          have hB5 : Hid (Blk (wc.drewN n5) w.heap.size 104 l'.C) := hid HBX.out
          have hO5 : Hid (Blk (wc.drewN n5) wa.heap.size 104 l.C) := hid HOX.out
          have hS5 : Hid (IsPS (wc.drewN n5) g r3) := hid HPS3.out
          have hK5 : Hid (Blk (wc.drewN n5) sb 121 cs3) := hid HSB3.out
          clear HP HBX HOX HPS3 HSB3 hbl0
          generalize wc.drewN n5 = wd at hP5 hB5 hO5 hS5 hK5 ⊢
          cases hbl : l.blank with
          | true =>
            have c5 := hS5.out.c5
            have f5 := hS5.out.free
            rw [HD3.out] at c5
            cases ok with
            | true =>
              go_wp2_with fail
              have hj' := HH.out.yes k l l' wd hP5.out hlt
              rw [show updB l l' true = false from by unfold updB; rw [hbl]; rfl] at hj'
              refine ⟨⟨k + 1, l', hj', hlt, HOK'.out, Blk.far hB5.out (p := ⟨g, 5, none⟩) hbg _, Nat.le_refl _⟩, ?_⟩
              rw [depthOf_ps (hS5.out.set5 ((k : Int) + 1)) (k := k + 1) (by simp), hdep.out]
              omega
            | false =>
              go_wp2_with fail
              go_meet
              have hj' := HH.out.no k l l' wd hP5.out hlt
              rw [show updB l l' false = false from by unfold updB; rw [hbl]; rfl] at hj'
              exact ⟨k, l', hj', HOK'.out, hB5.out, Nat.le_refl _⟩
          | false =>
            have c5 := hS5.out.c5
            have c4 := hS5.out.c4
            have c3 := hS5.out.c3
            have f5 := hS5.out.free
            rw [HD3.out] at c5
            rw [HT3.out] at c4
            rw [HN3.out] at c3
            dsimp only at c4
            have hix : (k + 1) * 4 + 3 < cs3.size := by omega
            have e7 := hK5.out.at_ ((k + 1) * 4 + 3) (Array.getElem?_eq_getElem hix)
            have ef := hK5.out.free
            have hld : IsLn wd w.heap.size l'.i 0 l'.s l'.nl := hB5.out
            have hod : IsLn wd wa.heap.size l.i 0 l.s l.nl := hO5.out
            have b0 := hld.c0
            have b1 := hld.c1
            have b2 := hld.c2
            have b3 := hld.c3
            have b4 := hld.c4
            have o0 := hod.c0
            have o1 := hod.c1
            have o2 := hod.c2
            have o3 := hod.c3
            have o4 := hod.c4
            cases ok with
            | true =>
              clear hld hod b0 b1 b2 b3 b4 o0 o1 o2 o3 o4
              have e1 : IntKind.i64.wrap ((k : Int) + 1) = (k : Int) + 1 := IntWalk.i64_in _ (by omega)
              have e2 : (0 : Int) ≤ (k : Int) + 1 := by omega
              have e3 : ((k : Int) + 1).toNat = k + 1 := by omega
              have e4 : (k : Int) + 1 < (n : Int) := by omega
              go_wp2_with fail
              go_region
              have hj' := HH.out.yes k l l' wd hP5.out hlt
              rw [show updB l l' true = true from by unfold updB; rw [hbl]; rfl] at hj'
              unfold updW at hj'
              rw [if_pos rfl] at hj'
              have hBx : Hid (Blk (wd.setCell ⟨sb, (k + 1) * 4 + 2 + 1, none⟩ (.int .i64 lineno)).drew w.heap.size 104 l'.C) := hid ((hB5.out.far (p := ⟨sb, (k + 1) * 4 + 2 + 1, none⟩) (Blk.ne_ hB5.out hK5.out (by decide)) _).drewN 1)
              have hSx : Hid (IsPS (wd.setCell ⟨sb, (k + 1) * 4 + 2 + 1, none⟩ (.int .i64 lineno)).drew g r3) := hid ((hS5.out.far (p := ⟨sb, (k + 1) * 4 + 2 + 1, none⟩) (Blk.ne_ hS5.out hK5.out (by decide)) _).drewN 1)
              have hJx : Hid (J (k + 1) l' ((wd.setCell ⟨sb, (k + 1) * 4 + 2 + 1, none⟩ (.int .i64 lineno)).drew.setCell ⟨g, 5, none⟩ (.int .i64 ((k : Int) + 1)))) := hid (HH.out.keepJ _ _ _ _ hj' ((LnKept.refl _ _).drewN 1))
              clear hj' c5 c4 c3 f5 e7 ef e1 e2 e3 e4
              generalize (World.setCell wd ⟨sb, (k + 1) * 4 + 2 + 1, none⟩ (.int .i64 lineno)).drew = we at hBx hSx hJx ⊢
              have c5 := hSx.out.c5
              have f5 := hSx.out.free
              rw [HD3.out] at c5
              go_wp2_with fail
              refine ⟨⟨k + 1, l', hJx.out, hlt, HOK'.out, Blk.far hBx.out (p := ⟨g, 5, none⟩) hbg _, Nat.le_refl _⟩, ?_⟩
              rw [depthOf_ps (hSx.out.set5 ((k : Int) + 1)) (k := k + 1) (by simp), hdep.out]
              omega
            | false =>
              clear hld hod
              have e1 : IntKind.i64.wrap ((k : Int) + 1) = (k : Int) + 1 := IntWalk.i64_in _ (by omega)
              have e2 : (0 : Int) ≤ (k : Int) + 1 := by omega
              have e3 : ((k : Int) + 1).toNat = k + 1 := by omega
              have e4 : (k : Int) + 1 < (n : Int) := by omega
              have hj' := hid (HH.out.no k l l' wd hP5.out hlt)
              go_wp2_with fail
              · go_meet
                refine ⟨k, l', ?_, HOK'.out, hB5.out, Nat.le_refl _⟩
                have h1 := hj'.out
                rw [show updB l l' false = false from by unfold updB; rw [hbl]; simp [*]] at h1
                exact h1
              all_goals
                have h1 := hj'.out
                rw [show updB l l' false = true from by unfold updB; rw [hbl]; simp [*]] at h1
                unfold updW at h1
                rw [if_pos rfl] at h1
                have HJ1 := hid h1
                clear h1 b0 b1 b2 b3 b4 o0 o1 o2 o3 o4
                go_region
                have hBx : Hid (Blk (wd.setCell ⟨sb, (k + 1) * 4 + 2 + 1, none⟩ (.int .i64 lineno)).drew w.heap.size 104 l'.C) := hid ((hB5.out.far (p := ⟨sb, (k + 1) * 4 + 2 + 1, none⟩) (Blk.ne_ hB5.out hK5.out (by decide)) _).drewN 1)
                have hEx : Hid (E k l' (wd.setCell ⟨sb, (k + 1) * 4 + 2 + 1, none⟩ (.int .i64 lineno)).drew) := hid (HH.out.keepE _ _ _ _ HJ1.out ((LnKept.refl _ _).drewN 1))
                go_wp2_with fail
                go_meet
                exact ⟨k, l', hEx.out, HOK'.out, hBx.out, Nat.le_refl _⟩
      · obtain rfl : n = k + 1 := by omega
        go_wp2_with fail
        go_quiet (fail)
        go_wp2_with fail
        go_meet
        exact ⟨k, l, HH.out.keepE _ _ _ _ (HH.out.last l wr HJ.out) ((LnKept.refl _ _).drewN _), HOK.out, HBOX.out.drewN _, Nat.le_refl _⟩
  case rest =>
    obtain ⟨d, l, he, hlok, hbox, _⟩ := hcut
    clear c5 f1 HJ0
    have HE := hid he
    have HBOX := hid hbox
    have HOK := hid hlok
    clear he hbox hlok
    go_wp2_with fail
    refine (isBlank_any w.heap.size l.s l.i _ HOK.out.1 (by have := HOK.out.2; omega) (HBOX.out.at_ 1 rfl) (HBOX.out.at_ 3 rfl)).mono ?_
    rintro e w1 ⟨rfl, n1, rfl⟩
    have hbl0 : (trimL (l.s.data.toList.drop l.i)).isEmpty = l.blank := rfl
    rw [hbl0]
    have hE1 : Hid (E d l (wc.drewN n1)) := hid (HH.out.keepE _ _ _ _ HE.out ((LnKept.refl _ _).drewN _))
    have hB1 : Hid (Blk (wc.drewN n1) w.heap.size 104 l.C) := hid HBOX.out
    clear HE HBOX hbl0
    generalize wc.drewN n1 = wd at hE1 hB1 ⊢
    cases hbl : l.blank with
    | true =>
      obtain ⟨⟨r3, cs3, hps3, hd3, _, _, _, _, _, hn3⟩, hdn⟩ := HH.out.atE d l wd hE1.out
      have c5 := hps3.c5
      rw [hd3] at c5
      clear hps3 hd3
      have htr := hid (HH.out.blank d l wd hE1.out hbl)
      go_wp2_with fail
      refine htr.out.mono ?_
      rintro e w2 ⟨rfl, hq⟩
      have HQ := hid hq
      clear hq
      go_wp2_with fail
      all_goals (try rw [Exit.noGoto_ret])
      go_returns
      exact ⟨rfl, HQ.out⟩
    | false =>
      obtain ⟨m, hm8, hdec, hacc, hpara⟩ := HH.out.start d l hbl HOK.out
      have HDEC := hid hdec
      have HACC := hid hacc
      have HPARA := hid hpara
      clear hdec hacc hpara
      go_wp2_with fail
      go_step3
      go_wp2_with fail
      refine (news_any _).mono ?_
      rintro e w2 ⟨nb, rfl, hnb, hblk, hb⟩
      have hkn := LnKept.below (base := w.heap.size) hb
      have hE2 := hid (HH.out.keepE _ _ _ _ hE1.out hkn)
      have hB2 := hid (Blk.mod hB1.out (Mod.below' (S := fun _ => False) hb) (fun h => h))
      have hN2 := hid hblk
      clear hblk hb hkn hE1 hB1
      go_wp2_with fail
      go_loopw [88] (fun t wr => StartR nb w.heap.size m d l E t wr) (fun t _ => 8 - (intOf t).toNat)
      case atStart => exact ⟨0, Nat.zero_le _, rfl, hN2.out, hB2.out, hE2.out⟩
      case round =>
        obtain ⟨i, hik, rfl, hN, hL, hE⟩ := hrel
        clear hN2 hB2 hE2
        have HN := hid hN
        have HL := hid hL
        have HE := hid hE
        unfold newsC at hN
        have q0 := hN.at_ 0 rfl
        have q1 := hN.at_ 1 rfl
        have q2 := hN.at_ 2 rfl
        have q3 := hN.at_ 3 rfl
        have q4 := hN.at_ 4 rfl
        have q5 := hN.at_ 5 rfl
        have q6 := hN.at_ 6 rfl
        have q7 := hN.at_ 7 rfl
        have hisl : IsLn wr w.heap.size l.i 0 l.s l.nl := hL
        have c0 := hisl.c0
        have c1 := hisl.c1
        have c2 := hisl.c2
        have c3 := hisl.c3
        have c4 := hisl.c4
        have fl := Blk.free hisl
        clear hN hL hE hisl
        rcases Nat.lt_or_ge i m with hlt | hge
        · have hi : i = 0 ∨ i = 1 ∨ i = 2 ∨ i = 3 ∨ i = 4 ∨ i = 5 ∨ i = 6 ∨ i = 7 := by omega
          rcases hi with rfl | rfl | rfl | rfl | rfl | rfl | rfl | rfl
          all_goals
            go_wp2_with fail
            refine (HDEC.out _ _ _ hlt rfl HE.out).mono ?_
            rintro e w3 ⟨rfl, hk3, hkl3⟩
            have HN3 := hid (HN.out.lnKept hk3 (by decide))
            have HL3 := hid (hkl3 _ _ (Nat.le_refl _) HL.out)
            have HE3 := hid (HH.out.keepE _ _ _ _ HE.out hk3)
            clear hk3 hkl3 q0 q1 q2 q3 q4 q5 q6 q7 c0 c1 c2 c3 c4 fl
            simp only [Ln.v, lnV]
            go_wp2_with fail
            refine ⟨?_, by simp [intOf]⟩
            iterate 25 (apply Exists.intro)
            refine ⟨?_, rfl⟩
            exact ⟨_ + 1, hlt, rfl, HN3.out.alloc _, HL3.out.alloc _, HH.out.keepE _ _ _ _ HE3.out ((LnKept.refl _ _).alloc _)⟩
        · obtain rfl : i = m := by omega
          by_cases hi8 : i = 8
          · subst hi8
            go_wp2_with fail
            refine (HPARA.out trivial _ HE.out).mono ?_
            rintro e w3 ⟨⟨v, rfl⟩, hq⟩
            have HQ := hid hq
            clear hq
            go_wp2_with fail
            simp only [Exit.noGoto]
            go_end0
            exact ⟨rfl, HQ.out⟩
          have hi : i = 0 ∨ i = 1 ∨ i = 2 ∨ i = 3 ∨ i = 4 ∨ i = 5 ∨ i = 6 ∨ i = 7 := by omega
          clear hi8
          rcases hi with rfl | rfl | rfl | rfl | rfl | rfl | rfl | rfl
          all_goals
            go_wp2_with fail
            refine (HACC.out _ _ rfl HE.out).mono ?_
            rintro e w3 ⟨rfl, hq, hsz, hkeep⟩
            have hl3 := hkeep _ _ (Nat.le_refl _) HL.out
            have fl3 := Blk.free hl3
            have d0 := Blk.at_ hl3 0 rfl
            have d1 := Blk.at_ hl3 1 rfl
            have d2 := Blk.at_ hl3 2 rfl
            have d3 := Blk.at_ hl3 3 rfl
            have d4 := Blk.at_ hl3 4 rfl
            have hlt3 := Blk.lt hl3
            have HQ := hid hq
            have HL3 := hid hl3
            clear hq hsz hkeep hl3 q0 q1 q2 q3 q4 q5 q6 q7 c0 c1 c2 c3 c4 fl
            simp only [Ln.v, lnV, Ln.nil]
            go_wp2_with fail
            have hln : Hid (Blk _ w.heap.size 104 _) := hid (Blk.alloc (line_zero HL3.out) (.cells #[.int .i64 0, .int .i64 0, .int .i64 0, .string ⟨#[]⟩, .int .u8 0] 104))
            have hmy : Hid (LnKept w.heap.size w3 _) := hid ((LnKept.fill (Nat.le_refl _) HL3.out Ln.nil).alloc (.cells #[.int .i64 0, .int .i64 0, .int .i64 0, .string ⟨#[]⟩, .int .u8 0] 104))
            unfold Ln.nil at hmy
            generalize World.alloc _ _ = wy at hln hmy ⊢
            clear d0 d1 d2 d3 d4 fl3
            refine (isBlank_any w.heap.size ⟨#[]⟩ 0 wy (Nat.zero_le _) (by simp [ByteArray.size]) (hln.out.at_ 1 rfl) (hln.out.at_ 3 rfl)).mono ?_
            rintro e w4 ⟨rfl, n4, rfl⟩
            have hE : (trimL (List.drop 0 (ByteArray.mk #[]).data.toList)).isEmpty = true := rfl
            rw [hE]
            go_wp2_with fail
            all_goals (try rw [Exit.noGoto_ret])
            go_returns
            exact ⟨rfl, HH.out.keepQ _ _ HQ.out (hmy.out.trans ((LnKept.refl _ _).drewN n4))⟩
end Go.Proofs.YtmmijmhdbpldpaaGreatDoor
/- The top block of the stack is closed: what it builds goes to the one below it. -/

namespace Go.Proofs.YtmmijmhdbpldpaaGreatDoor
open Go.RowKit
theorem own_front {w : World} {B : Nat} {e : TypeId} {size n m cap : Nat} {a : Addr} {xs ys : List Value} (h : w.ownsRow B e size (.slice (some a) n cap) n (xs ++ ys)) (hx : xs.length = m * size) (hm : m ≤ n) : w.ownsRow B e size (.slice (some a) m cap) m xs := by
  refine ⟨hx, .inr ?_⟩
  rcases h.2 with ⟨h0, _⟩ | ⟨g', cap', cur, h0, h1, h2, h3, h4, h5, h6⟩
  · simp at h0
  · simp only [Value.slice.injEq, Option.some.injEq] at h0
    obtain ⟨rfl, _, rfl⟩ := h0
    refine ⟨g', cap, cur, rfl, h1, h2, by omega, h4, h5, ?_⟩
    have e1 : (cur.toList.take (n * size)).take (m * size) = (xs ++ ys).take (m * size) := by rw [h6]
    rw [List.take_take, Nat.min_eq_left (Nat.mul_le_mul_right _ hm)] at e1
    rw [e1, ← hx]
    exact List.take_left' rfl
theorem IsStack.front {w : World} {B sb n cap : Nat} {es fs : List Ent} (h : IsStack w B ⟨some ⟨sb, 0, none⟩, n, cap⟩ (es ++ fs)) : IsStack w B ⟨some ⟨sb, 0, none⟩, es.length, cap⟩ es := by
  refine ⟨rfl, ?_⟩
  have h2 := h.2
  have hn : n = (es ++ fs).length := h.1
  subst hn
  rw [List.flatMap_append] at h2
  exact own_front h2 (ents_len es) (by simp)
/-- What the top block's build hands back, and what it leaves. -/
def BuildP (B g : Nat) (r r' : PSr) (es : List Ent) (e1 e0 : Ent) (bs : List Value) (u : TypeId) (Q : Nat → World → Prop) (e : Ending) (w' : World) : Prop :=
  ∃ k, e = .returned (.iface u (.pointer (some ⟨k, 0, none⟩))) ∧ IsPS w' g r' ∧ r'.stack = r.stack ∧ IsStack w' B r.stack (es ++ [e1] ++ [e0]) ∧ w'.ownsRow B 69 1 e1.inner.v e1.inner.n bs ∧ B ≤ w'.heap.size ∧ Q k w'
def CloseP (B g : Nat) (r r' : PSr) (es : List Ent) (e1 : Ent) (bs : List Value) (u : TypeId) (Q : Nat → World → Prop) (e : Ending) (w' : World) : Prop :=
  ∃ k w1 v st, e = .returned (.iface u (.pointer (some ⟨k, 0, none⟩))) ∧ Q k w1 ∧ IsPS w' g { r' with stack := st } ∧ IsStack w' B st (es ++ [{ e1 with inner := v }]) ∧ st.v.ownBlock = r.stack.v.ownBlock ∧
    v.n = e1.inner.n + 1 ∧ w'.ownsRow B 69 1 v.v v.n (bs ++ [.iface u (.pointer (some ⟨k, 0, none⟩))]) ∧ Mod (fun k => k = g ∨ some k = r.stack.v.ownBlock ∨ some k = e1.inner.v.ownBlock) w1 w'
set_option maxRecDepth 20000 in
set_option maxHeartbeats 4000000 in
theorem close_gen (B g : Nat) (r r' : PSr) (es : List Ent) (e1 e0 : Ent) (bs : List Value) (u : TypeId) (Q : Nat → World → Prop) (f : FuncId) (x : Value) (w : World) (hps : IsPS w g r) (hst : IsStack w B r.stack (es ++ [e1] ++ [e0])) (hn : es.length ≤ 1000000) (hm : e1.inner.n ≤ 1000000)
    (hmeth : ∀ W, (method 475 e0.bt e0.bv "pub-paratext/pub/rscmarkdown.build").run Tryz.prog W = .ok (f, x) W) (hent : ∀ args W, (callFunc f args).run Tryz.prog W = .ok (.enter f args) W)
    (hta : ∀ p W, (Instr.typeAssert (.iface u (.pointer p)) 69 111 true).run Tryz.prog W = .ok (.tuple #[.pointer none, .bool false]) W)
    (hbuild : ∀ n, Calls Tryz.prog f #[x, .iface 116 (.pointer (some ⟨g, 0, none⟩))] (w.drewN n) (BuildP B g r r' es e1 e0 bs u Q)) :
    Calls Tryz.prog 63 #[.pointer (some ⟨g, 0, none⟩)] w (CloseP B g r r' es e1 bs u Q) := by
  obtain ⟨sb, cap, hv, hcap, hfr, hob, hsb, hBs, k0, k1, k2, k3⟩ := hst.top
  have c4 := hps.c4
  rw [hv] at c4
  have HV := hid hv
  have HOB := hid hob
  have HBU := hid hbuild
  clear hv hob hbuild
  simp only [List.length_append, List.length_cons, List.length_nil, Nat.zero_add] at k0 k1 k2 k3 hcap c4
  obtain ⟨i0, hi, hz0, hz1, hz2⟩ := info_parts infoBlock
  go_enter Tryz.func63, Tryz.ntmps63
  go_wp2_with fail
  go_quiet (fail)
  go_wp2_with fail
  refine (HBU.out nq).mono ?_
  rintro e w1 ⟨k, rfl, hps1, hst9, hst1, hin1, hB1, hq⟩
  have f1 := hps1.free
  have d4 := hps1.c4
  have hgl := hps1.lt
  rw [hst9, HV.out] at d4
  have hst1' := hst1
  rw [HV.out] at hst1'
  have hst2 := IsStack.front hst1'
  simp only [List.length_append, List.length_cons, List.length_nil, Nat.zero_add] at hst2
  obtain ⟨cs1, hcs1⟩ := IsStack.blk hst1'
  have hgs : g ≠ sb := Blk.ne_ hps1 hcs1 (by decide)
  have hnb1 : some sb ≠ (Value.slice e1.inner.a e1.inner.n e1.inner.c).ownBlock := own_ne hin1 hcs1 (by decide)
  have hsb1 := Blk.lt hcs1
  obtain ⟨sb3, cap3, hv3, hcap3, hfr3, hob3, hsb3, hBs3, q0, q1, q2, q3⟩ := hst2.top
  simp only [Sl.mk.injEq, Option.some.injEq, Addr.mk.injEq] at hv3
  obtain ⟨⟨rfl, _⟩, _, rfl⟩ := hv3
  have HST9 := hid hst9
  have HST2 := hid hst2
  have HIN1 := hid hin1
  have HPS1 := hid hps1
  have HQ := hid hq
  have HCS1 := hid hcs1
  clear hst9 hst1 hst1' hst2 hin1 hps1 hq hcs1 k0 k1 k2 k3 hfr hob3
  go_wp2_with fail
  go_region
  have hps2 : Hid (IsPS (World.drew _) g { r' with stack := ⟨some ⟨sb, 0, none⟩, es.length + 1, cap⟩ }) := hid ((HPS1.out.set4 (some ⟨sb, 0, none⟩) (es.length + 1) cap).drew)
  have hst3 : Hid (IsStack (World.drew _) B ⟨some ⟨sb, 0, none⟩, es.length + 1, cap⟩ (es ++ [e1])) := hid ((HST2.out.far (p := ⟨g, 4, none⟩) (by rw [show (Sl.mk (some ⟨sb, 0, none⟩) (es.length + 1) cap).v.ownBlock = some sb from rfl]; simpa using hgs) (.slice (some ⟨sb, 0, none⟩) (es.length + 1) cap)).drew)
  have hin2 : Hid (World.ownsRow (World.drew _) B 69 1 (.slice e1.inner.a e1.inner.n e1.inner.c) e1.inner.n bs) := hid (World.ownsRow.drewN (own_far HIN1.out (p := ⟨g, 4, none⟩) (own_ne HIN1.out HPS1.out (by decide)) (.slice (some ⟨sb, 0, none⟩) (es.length + 1) cap)) 1)
  have hm2 : Hid (Mod (fun k => k = g) w1 (World.drew _)) := hid (((Mod.refl (fun k => k = g) w1).setCell (p := ⟨g, 4, none⟩) (.inl rfl) (.slice (some ⟨sb, 0, none⟩) (es.length + 1) cap)).drew)
  clear q0 q1 q2 q3 d4 f1
  generalize World.drew _ = wa at hps2 hst3 hin2 hm2 ⊢
  have d4 := hps2.out.c4
  obtain ⟨sb', cap', hv', hcap', hfr', hob', hsb', hBs', q0, q1, q2, q3⟩ := hst3.out.top
  simp only [Sl.mk.injEq, Option.some.injEq, Addr.mk.injEq] at hv'
  obtain ⟨⟨rfl, _⟩, _, rfl⟩ := hv'
  have HOB2 := hid hob'
  clear hob' q0 q2 q3
  go_wp2_with fail
  go_quiet (fail)
  have hcl : ∀ j u', ([.iface u (.pointer (some ⟨k, 0, none⟩))] : List Value)[j]? = some u' → ((wa.drewN nq).alloc (.cells #[.iface u (.pointer (some ⟨k, 0, none⟩))] 69)).cell? ((⟨wa.heap.size, 0, none⟩ : Addr).add j) = some u' := by
    intro j u' hj
    cases j with
    | zero => rw [Addr.add, if_pos rfl]; exact ((Blk.new (wa.drewN nq) 69 #[.iface u (.pointer (some ⟨k, 0, none⟩))]).cell 0).trans hj
    | succ j => simp at hj
  have HCL := hid hcl
  clear hcl
  go_wp2_with (at_builtin; refine wpList_append_own_at _ rfl (.tmp 106) (.tmp 108) 119 rfl B 69 i0 _ 1 16 Tryz.underlying119 hi hz0 hz1 hz2 rfl (by decide) (.slice e1.inner.a e1.inner.n e1.inner.c) e1.inner.n bs rfl (World.ownsRow.alloc (World.ownsRow.drewN hin2.out nq) _) ⟨wa.heap.size, 0, none⟩ 1 1 [.iface u (.pointer (some ⟨k, 0, none⟩))] rfl rfl HCL.out ?_ ?_ ?_ ?_ ?_)
  · intro v hv; simp at hv; subst hv; rfl
  · unfold maxLen; omega
  · omega
  · simp; exact Nat.le_succ_of_le (Nat.le_trans hB1 hm2.out.size)
  · intro v' w2 hown hgr hnil hat
    have hnb : some sb ≠ (Value.slice e1.inner.a e1.inner.n e1.inner.c).ownBlock := hnb1
    have hps3 : IsPS w2 g { r' with stack := ⟨some ⟨sb, 0, none⟩, es.length + 1, cap⟩ } := Blk.grown ((hps2.out.drewN nq).alloc _) hgr (own_ne hin2.out hps2.out (by decide))
    have hm3 : Mod (fun k => some k = e1.inner.v.ownBlock) wa w2 := (((Mod.refl _ wa).drewN nq).alloc _).grown hgr (fun k hk => .inl hk.symm)
    have hst4 : IsStack w2 B ⟨some ⟨sb, 0, none⟩, es.length + 1, cap⟩ (es ++ [e1]) := hst3.out.mod hm3 (fun k hk e => by rw [HOB2.out] at hk; cases hk; exact hnb e)
    obtain ⟨g2, cap2, rfl, hc2⟩ : ∃ g2 cap2, v' = .slice (some ⟨g2, 0, none⟩) (e1.inner.n + 1) cap2 ∧ e1.inner.n + 1 ≤ cap2 := by
      rcases hown.2 with ⟨h1, h2⟩ | ⟨g2, cap2, cur, h1, _, _, h2, _⟩
      · exact absurd h2 (by omega)
      · exact ⟨g2, cap2, h1, h2⟩
    obtain ⟨_, _, hvx, _, hfrx, _, _, _, _, y1, _, _⟩ := hst4.top
    simp only [Sl.mk.injEq, Option.some.injEq, Addr.mk.injEq] at hvx
    obtain ⟨⟨rfl, _⟩, _, rfl⟩ := hvx
    have hszw : w1.heap.size ≤ wa.heap.size := hm2.out.size
    have hg2 : sb ≠ g2 := by
      rintro rfl
      rcases hat with h | h
      · exact hnb h
      · have : sb = wa.heap.size + 1 := by simpa [Value.ownBlock] using h
        omega
    have hg2' : some g2 = e1.inner.v.ownBlock ∨ w1.heap.size ≤ g2 := by
      rcases hat with h | h
      · exact .inl h
      · have : g2 = wa.heap.size + 1 := by simpa [Value.ownBlock] using h
        exact .inr (by omega)
    have HO := hid hown
    have HM := hid hm3
    have HST := hid hst4
    have HP3 := hid hps3
    have HG := hid hg2'
    clear hown hgr hat hm3 hst4 hps3 hg2' q1 d4
    go_wp2_with fail
    go_ret
    refine ⟨k, w1, ⟨some ⟨g2, 0, none⟩, e1.inner.n + 1, cap2⟩, ⟨some ⟨sb, 0, none⟩, es.length + 1, cap⟩, rfl, HQ.out, HP3.out.far hgs _, ⟨?_, ?_⟩, ?_, rfl, ?_, ?_⟩
    · simp
    · have s0 := HST.out.2
      rw [show (es ++ [e1]).length = es.length + 1 by simp] at s0
      have s1 := (s0.stored (es.length * 4 + 1) (.slice (some ⟨g2, 0, none⟩) (e1.inner.n + 1) cap2)).1
      rw [List.flatMap_append] at s1 ⊢
      simp only [List.flatMap_cons, List.flatMap_nil, List.append_nil, Ent.cells, List.length_append, List.length_cons, List.length_nil] at s1 ⊢
      rw [set_inner _ _ _ _ _ _ _ (ents_len es)] at s1
      exact s1
    · rw [HOB.out]; rfl
    · refine own_far HO.out ?_ _
      simpa [Value.ownBlock] using hg2
    · have m0 : Mod (fun k => k = g ∨ some k = r.stack.v.ownBlock ∨ some k = e1.inner.v.ownBlock) w1 w2 := (hm2.out.mono (fun k _ h => .inl h)).trans HM.out (fun k _ h => .inr (.inr h))
      refine m0.setCell (.inl (.inr (.inl ?_))) _
      rw [HOB.out]
end Go.Proofs.YtmmijmhdbpldpaaGreatDoor
/- What is owned: where it lies. -/

namespace Go.Proofs.YtmmijmhdbpldpaaGreatDoor
open Go.RowKit
theorem ownLt {w : World} {base : Nat} {e : TypeId} {size n : Nat} {v : Value} {xs : List Value} (h : w.ownsRow base e size v n xs) {k : Nat} (hk : some k = v.ownBlock) : k < w.heap.size := by
  rcases h.2 with ⟨rfl, _⟩ | ⟨g', cap, cur, rfl, hb, hh, _⟩
  · simp [Value.ownBlock] at hk
  · simp only [Value.ownBlock, Option.some.injEq] at hk
    subst hk
    exact Blk.lt (t := e) hh
theorem ownBase {w : World} {base : Nat} {e : TypeId} {size n : Nat} {v : Value} {xs : List Value} (h : w.ownsRow base e size v n xs) {k : Nat} (hk : some k = v.ownBlock) : base ≤ k := by
  rcases h.2 with ⟨rfl, _⟩ | ⟨g', cap, cur, rfl, hb, _⟩
  · simp [Value.ownBlock] at hk
  · simp only [Value.ownBlock, Option.some.injEq] at hk
    omega
theorem ownApart {w : World} {base base2 : Nat} {e e2 : TypeId} {size size2 n n2 : Nat} {v v2 : Value} {xs ys : List Value} (h : w.ownsRow base e size v n xs) (h2 : w.ownsRow base2 e2 size2 v2 n2 ys) (hne : e ≠ e2) {k : Nat} (hk : v.ownBlock = some k) : v2.ownBlock ≠ some k := by
  intro hk2
  rcases h.2 with ⟨rfl, _⟩ | ⟨g', cap, cur, rfl, _, hh, _⟩
  · simp [Value.ownBlock] at hk
  · rcases h2.2 with ⟨rfl, _⟩ | ⟨g2, cap2, cur2, rfl, _, hh2, _⟩
    · simp [Value.ownBlock] at hk2
    · simp only [Value.ownBlock, Option.some.injEq] at hk hk2
      subst hk
      subst hk2
      exact Blk.ne_ (t := e) hh hh2 hne rfl
end Go.Proofs.YtmmijmhdbpldpaaGreatDoor
/- The library's contracts on bytes.Buffer, laid at this program. -/







namespace Go.Proofs
open Go.Shelf
def Tryz.layWS_ren : Go.Shelf.Ren := ⟨fun | 178 => 245 | 251 => 246 | 252 => 247 | 181 => 248 | 184 => 238 | 290 => 249 | 324 => 250 | n => n, fun | 130 => 75 | 9 => 9 | 3 => 3 | 75 => 61 | 0 => 0 | 93 => 73 | 91 => 71 | 131 => 265 | 4 => 4 | 37 => 56 | 20 => 20 | 80 => 65 | 5 => 5 | n => n, fun | 14 => 9 | n => n⟩
theorem Tryz.layWS : Go.Proofs.LaysM.n178 Tryz.prog Tryz.layWS_ren := {
  mixed := by kernel_rfl
  f178 := Tryz.func245.trans (congrArg some (by kernel_rfl))
  f181 := Tryz.func248.trans (congrArg some (by kernel_rfl))
  f184 := Tryz.func238.trans (congrArg some (by kernel_rfl))
  f251 := Tryz.func246.trans (congrArg some (by kernel_rfl))
  f252 := Tryz.func247.trans (congrArg some (by kernel_rfl))
  f290 := Tryz.func249.trans (congrArg some (by kernel_rfl))
  f324 := Tryz.func250.trans (congrArg some (by kernel_rfl))
  t0 := Tryz.underlying0
  a0 := Tryz.isAgg0
  z0 := Tryz.sizeOf0
  v0 := Tryz.zeroValue0
  t3 := Tryz.underlying3
  a3 := Tryz.isAgg3
  z3 := Tryz.sizeOf3
  v3 := Tryz.zeroValue3
  t4 := Tryz.underlying4
  a4 := Tryz.isAgg4
  z4 := Tryz.sizeOf4
  v4 := Tryz.zeroValue4
  t9 := Tryz.underlying9
  a9 := Tryz.isAgg9
  z9 := Tryz.sizeOf9
  v9 := Tryz.zeroValue9
  t20 := Tryz.underlying20
  a20 := Tryz.isAgg20
  z20 := Tryz.sizeOf20
  v20 := Tryz.zeroValue20
  t37 := Tryz.underlying56
  a37 := Tryz.isAgg56
  z37 := Tryz.sizeOf56
  v37 := Tryz.zeroValue56
  t75 := Tryz.underlying61
  a75 := Tryz.isAgg61
  z75 := Tryz.sizeOf61
  v75 := Tryz.zeroValue61
  t91 := Tryz.underlying71
  a91 := Tryz.isAgg71
  z91 := Tryz.sizeOf71
  v91 := Tryz.zeroValue71
  t93 := Tryz.underlying73
  a93 := Tryz.isAgg73
  z93 := Tryz.sizeOf73
  v93 := Tryz.zeroValue73
  t130 := Tryz.underlying75
  a130 := Tryz.isAgg75
  z130 := Tryz.sizeOf75
  v130 := Tryz.zeroValue75
  t131 := Tryz.underlying265
  a131 := Tryz.isAgg265
  z131 := Tryz.sizeOf265
  v131 := Tryz.zeroValue265
  g14 := by kernel_rfl
  t5 := Tryz.underlying5
  a5 := Tryz.isAgg5
  z5 := Tryz.sizeOf5
  v5 := Tryz.zeroValue5
  t80 := Tryz.underlying65
  a80 := Tryz.isAgg65
  z80 := Tryz.sizeOf65
  v80 := Tryz.zeroValue65
  i0 := by kernel_rfl
  i3 := by kernel_rfl
  i4 := by kernel_rfl
  i5 := by kernel_rfl
  i9 := by kernel_rfl
  i20 := by kernel_rfl
  i37 := by kernel_rfl
  i75 := by kernel_rfl
  i80 := by kernel_rfl
  i91 := by kernel_rfl
  i93 := by kernel_rfl
  i130 := by kernel_rfl
  i131 := by kernel_rfl
  m14 := by kernel_rfl }
def Tryz.layWB_ren : Go.Shelf.Ren := ⟨fun | 179 => 259 | 251 => 246 | 252 => 247 | 181 => 248 | 184 => 238 | 290 => 249 | 324 => 250 | n => n, fun | 130 => 75 | 5 => 5 | 75 => 61 | 0 => 0 | 93 => 73 | 91 => 71 | 3 => 3 | 131 => 265 | 4 => 4 | 37 => 56 | 20 => 20 | 80 => 65 | 9 => 9 | n => n, fun | 14 => 9 | n => n⟩
theorem Tryz.layWB : Go.Proofs.LaysM.n179 Tryz.prog Tryz.layWB_ren := {
  mixed := by kernel_rfl
  f179 := Tryz.func259.trans (congrArg some (by kernel_rfl))
  f181 := Tryz.func248.trans (congrArg some (by kernel_rfl))
  f184 := Tryz.func238.trans (congrArg some (by kernel_rfl))
  f251 := Tryz.func246.trans (congrArg some (by kernel_rfl))
  f252 := Tryz.func247.trans (congrArg some (by kernel_rfl))
  f290 := Tryz.func249.trans (congrArg some (by kernel_rfl))
  f324 := Tryz.func250.trans (congrArg some (by kernel_rfl))
  t0 := Tryz.underlying0
  a0 := Tryz.isAgg0
  z0 := Tryz.sizeOf0
  v0 := Tryz.zeroValue0
  t3 := Tryz.underlying3
  a3 := Tryz.isAgg3
  z3 := Tryz.sizeOf3
  v3 := Tryz.zeroValue3
  t4 := Tryz.underlying4
  a4 := Tryz.isAgg4
  z4 := Tryz.sizeOf4
  v4 := Tryz.zeroValue4
  t5 := Tryz.underlying5
  a5 := Tryz.isAgg5
  z5 := Tryz.sizeOf5
  v5 := Tryz.zeroValue5
  t20 := Tryz.underlying20
  a20 := Tryz.isAgg20
  z20 := Tryz.sizeOf20
  v20 := Tryz.zeroValue20
  t37 := Tryz.underlying56
  a37 := Tryz.isAgg56
  z37 := Tryz.sizeOf56
  v37 := Tryz.zeroValue56
  t75 := Tryz.underlying61
  a75 := Tryz.isAgg61
  z75 := Tryz.sizeOf61
  v75 := Tryz.zeroValue61
  t91 := Tryz.underlying71
  a91 := Tryz.isAgg71
  z91 := Tryz.sizeOf71
  v91 := Tryz.zeroValue71
  t93 := Tryz.underlying73
  a93 := Tryz.isAgg73
  z93 := Tryz.sizeOf73
  v93 := Tryz.zeroValue73
  t130 := Tryz.underlying75
  a130 := Tryz.isAgg75
  z130 := Tryz.sizeOf75
  v130 := Tryz.zeroValue75
  t131 := Tryz.underlying265
  a131 := Tryz.isAgg265
  z131 := Tryz.sizeOf265
  v131 := Tryz.zeroValue265
  g14 := by kernel_rfl
  t9 := Tryz.underlying9
  a9 := Tryz.isAgg9
  z9 := Tryz.sizeOf9
  v9 := Tryz.zeroValue9
  t80 := Tryz.underlying65
  a80 := Tryz.isAgg65
  z80 := Tryz.sizeOf65
  v80 := Tryz.zeroValue65
  i0 := by kernel_rfl
  i3 := by kernel_rfl
  i4 := by kernel_rfl
  i5 := by kernel_rfl
  i9 := by kernel_rfl
  i20 := by kernel_rfl
  i37 := by kernel_rfl
  i75 := by kernel_rfl
  i80 := by kernel_rfl
  i91 := by kernel_rfl
  i93 := by kernel_rfl
  i130 := by kernel_rfl
  i131 := by kernel_rfl
  m14 := by kernel_rfl }
def Tryz.layBS_ren : Go.Shelf.Ren := ⟨fun | 182 => 42 | n => n, fun | 130 => 75 | 9 => 9 | 4 => 4 | 0 => 0 | 93 => 73 | 37 => 56 | 3 => 3 | 91 => 71 | 5 => 5 | n => n, fun | n => n⟩
theorem Tryz.layBS : Go.Proofs.LaysM.n182 Tryz.prog Tryz.layBS_ren := {
  mixed := by kernel_rfl
  f182 := Tryz.func42.trans (congrArg some (by kernel_rfl))
  t0 := Tryz.underlying0
  a0 := Tryz.isAgg0
  z0 := Tryz.sizeOf0
  v0 := Tryz.zeroValue0
  t3 := Tryz.underlying3
  a3 := Tryz.isAgg3
  z3 := Tryz.sizeOf3
  v3 := Tryz.zeroValue3
  t4 := Tryz.underlying4
  a4 := Tryz.isAgg4
  z4 := Tryz.sizeOf4
  v4 := Tryz.zeroValue4
  t9 := Tryz.underlying9
  a9 := Tryz.isAgg9
  z9 := Tryz.sizeOf9
  v9 := Tryz.zeroValue9
  t37 := Tryz.underlying56
  a37 := Tryz.isAgg56
  z37 := Tryz.sizeOf56
  v37 := Tryz.zeroValue56
  t93 := Tryz.underlying73
  a93 := Tryz.isAgg73
  z93 := Tryz.sizeOf73
  v93 := Tryz.zeroValue73
  t130 := Tryz.underlying75
  a130 := Tryz.isAgg75
  z130 := Tryz.sizeOf75
  v130 := Tryz.zeroValue75
  t5 := Tryz.underlying5
  a5 := Tryz.isAgg5
  z5 := Tryz.sizeOf5
  v5 := Tryz.zeroValue5
  t91 := Tryz.underlying71
  a91 := Tryz.isAgg71
  z91 := Tryz.sizeOf71
  v91 := Tryz.zeroValue71
  i0 := by kernel_rfl
  i3 := by kernel_rfl
  i4 := by kernel_rfl
  i5 := by kernel_rfl
  i9 := by kernel_rfl
  i37 := by kernel_rfl
  i91 := by kernel_rfl
  i93 := by kernel_rfl
  i130 := by kernel_rfl }
def Tryz.layLen_ren : Go.Shelf.Ren := ⟨fun | 181 => 248 | n => n, fun | 130 => 75 | 3 => 3 | 0 => 0 | 93 => 73 | 37 => 56 | 91 => 71 | 5 => 5 | n => n, fun | n => n⟩
theorem Tryz.layLen : Go.Proofs.LaysM.n181 Tryz.prog Tryz.layLen_ren := {
  mixed := by kernel_rfl
  f181 := Tryz.func248.trans (congrArg some (by kernel_rfl))
  t0 := Tryz.underlying0
  a0 := Tryz.isAgg0
  z0 := Tryz.sizeOf0
  v0 := Tryz.zeroValue0
  t3 := Tryz.underlying3
  a3 := Tryz.isAgg3
  z3 := Tryz.sizeOf3
  v3 := Tryz.zeroValue3
  t37 := Tryz.underlying56
  a37 := Tryz.isAgg56
  z37 := Tryz.sizeOf56
  v37 := Tryz.zeroValue56
  t93 := Tryz.underlying73
  a93 := Tryz.isAgg73
  z93 := Tryz.sizeOf73
  v93 := Tryz.zeroValue73
  t130 := Tryz.underlying75
  a130 := Tryz.isAgg75
  z130 := Tryz.sizeOf75
  v130 := Tryz.zeroValue75
  t5 := Tryz.underlying5
  a5 := Tryz.isAgg5
  z5 := Tryz.sizeOf5
  v5 := Tryz.zeroValue5
  t91 := Tryz.underlying71
  a91 := Tryz.isAgg71
  z91 := Tryz.sizeOf71
  v91 := Tryz.zeroValue71
  i0 := by kernel_rfl
  i3 := by kernel_rfl
  i5 := by kernel_rfl
  i37 := by kernel_rfl
  i91 := by kernel_rfl
  i93 := by kernel_rfl
  i130 := by kernel_rfl }
def Tryz.layBB_ren : Go.Shelf.Ren := ⟨fun | 183 => 271 | n => n, fun | 130 => 75 | 37 => 56 | 0 => 0 | 93 => 73 | 3 => 3 | 5 => 5 | 91 => 71 | n => n, fun | n => n⟩
theorem Tryz.layBB : Go.Proofs.LaysM.n183 Tryz.prog Tryz.layBB_ren := {
  mixed := by kernel_rfl
  f183 := Tryz.func271.trans (congrArg some (by kernel_rfl))
  t0 := Tryz.underlying0
  a0 := Tryz.isAgg0
  z0 := Tryz.sizeOf0
  v0 := Tryz.zeroValue0
  t3 := Tryz.underlying3
  a3 := Tryz.isAgg3
  z3 := Tryz.sizeOf3
  v3 := Tryz.zeroValue3
  t37 := Tryz.underlying56
  a37 := Tryz.isAgg56
  z37 := Tryz.sizeOf56
  v37 := Tryz.zeroValue56
  t93 := Tryz.underlying73
  a93 := Tryz.isAgg73
  z93 := Tryz.sizeOf73
  v93 := Tryz.zeroValue73
  t130 := Tryz.underlying75
  a130 := Tryz.isAgg75
  z130 := Tryz.sizeOf75
  v130 := Tryz.zeroValue75
  t5 := Tryz.underlying5
  a5 := Tryz.isAgg5
  z5 := Tryz.sizeOf5
  v5 := Tryz.zeroValue5
  t91 := Tryz.underlying71
  a91 := Tryz.isAgg71
  z91 := Tryz.sizeOf71
  v91 := Tryz.zeroValue71
  i0 := by kernel_rfl
  i3 := by kernel_rfl
  i5 := by kernel_rfl
  i37 := by kernel_rfl
  i91 := by kernel_rfl
  i93 := by kernel_rfl
  i130 := by kernel_rfl }
end Go.Proofs
