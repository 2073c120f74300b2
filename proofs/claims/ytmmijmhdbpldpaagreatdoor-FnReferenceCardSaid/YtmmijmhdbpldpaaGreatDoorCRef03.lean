/- Texts of this proof, joined: A line is read: the open blocks are asked in turn, then the starters; if none takes it, a paragraph does, What is owned: where it lies, The library's contracts on bytes.Buffer, laid at this program. -/
import Derived.Test.YtmmijmhdbpldpaaGreatDoorCRef02
import Derived.Test.YtmmijmhdbpldpaaGreatDoorCRef01
import Derived.Shelf.Bytes.WriteStringKept
import Derived.Shelf.Bytes.WriteByteKept
import Derived.Shelf.Bytes.String
import Derived.Shelf.Bytes.Len
import Derived.Shelf.Bytes.Bytes
import Derived.Ground.NamesProg
import Derived.Test.YtmmijmhdbpldpaaGreatDoorProg
/- A line is read: the open blocks are asked in turn, then the starters; if none takes it, a paragraph does. -/

namespace Go.Proofs.YtmmijmhdbpldpaaGreatDoor
open Go.RowKit
/-- A line without tabs, read as far as i. -/
structure Ln where
  i : Nat
  s : ByteArray
  nl : Int
@[reducible] def Ln.v (l : Ln) : Value := lnV l.i 0 l.s l.nl
@[reducible] def Ln.C (l : Ln) : Array Value := #[.int .i64 0, .int .i64 l.i, .int .i64 0, .string l.s, .int .u8 l.nl]
def Ln.ok (l : Ln) : Prop := l.i ≤ l.s.size ∧ l.s.size ≤ 1000000
def Ln.blank (l : Ln) : Bool := (trimL (l.s.data.toList.drop l.i)).isEmpty
def Ln.nil : Ln := ⟨0, ⟨#[]⟩, 0⟩
theorem Ln.nil_blank : Ln.nil.blank = true := rfl
theorem Ln.nil_ok : Ln.nil.ok := ⟨Nat.le_refl _, by decide⟩
/-- What differs are lines' boxes from base on, and what is new. -/
def LnKept (base : Nat) (w w' : World) : Prop := Mod (fun k => base ≤ k ∧ ∃ cs, Blk w k 104 cs) w w'
theorem LnKept.refl (base : Nat) (w : World) : LnKept base w w := Mod.refl _ _
theorem LnKept.trans {base : Nat} {a b c : World} (h : LnKept base a b) (h' : LnKept base b c) : LnKept base a c := by
  refine ⟨h'.os.trans h.os, h'.tape.trans h.tape, h'.output.trans h.output, Nat.le_trans h.size h'.size, fun k hk hn => ?_⟩
  have h1 := h.block k hk hn
  refine (h'.block k (Nat.lt_of_lt_of_le hk h.size) (fun ⟨x, cs, hx⟩ => hn ⟨x, cs, ?_⟩)).trans h1
  unfold Blk at hx ⊢
  rw [← h1]; exact hx
theorem LnKept.alloc {base : Nat} {a w : World} (h : LnKept base a w) (o : Obj) : LnKept base a (w.alloc o) := h.trans ((Mod.refl _ _).alloc o)
theorem LnKept.drewN {base : Nat} {a w : World} (h : LnKept base a w) (n : Nat) : LnKept base a (w.drewN n) := h.trans ((Mod.refl _ _).drewN n)
theorem LnKept.below {base : Nat} {a w : World} (h : Below a.heap.size a w) : LnKept base a w := Mod.below' h
/-- A line's box is filled anew. -/
theorem LnKept.fill {base lb : Nat} {w : World} {cs : Array Value} (hb : base ≤ lb) (h : Blk w lb 104 cs) (l : Ln) : LnKept base w (((((w.setCell ⟨lb, 0, none⟩ (.int .i64 0)).setCell ⟨lb, 1, none⟩ (.int .i64 l.i)).setCell ⟨lb, 2, none⟩ (.int .i64 0)).setCell ⟨lb, 3, none⟩ (.string l.s)).setCell ⟨lb, 4, none⟩ (.int .u8 l.nl)) := by
  refine (((((Mod.refl _ _).setCell (p := ⟨lb, 0, none⟩) ?_ _).setCell (p := ⟨lb, 1, none⟩) ?_ _).setCell (p := ⟨lb, 2, none⟩) ?_ _).setCell (p := ⟨lb, 3, none⟩) ?_ _).setCell (p := ⟨lb, 4, none⟩) ?_ _
  all_goals exact .inl ⟨hb, cs, h⟩
theorem Ln.fill {w : World} {lb : Nat} {a0 a1 a2 a3 a4 : Value} (h : Blk w lb 104 #[a0, a1, a2, a3, a4]) (l : Ln) : Blk (((((w.setCell ⟨lb, 0, none⟩ (.int .i64 0)).setCell ⟨lb, 1, none⟩ (.int .i64 l.i)).setCell ⟨lb, 2, none⟩ (.int .i64 0)).setCell ⟨lb, 3, none⟩ (.string l.s)).setCell ⟨lb, 4, none⟩ (.int .u8 l.nl)) lb 104 l.C := ln_store h l.i 0 l.nl l.s
theorem Blk.fillFar {w : World} {lb b : Nat} {t : TypeId} {cs : Array Value} (h : Blk w b t cs) (hne : b ≠ lb) (l : Ln) : Blk (((((w.setCell ⟨lb, 0, none⟩ (.int .i64 0)).setCell ⟨lb, 1, none⟩ (.int .i64 l.i)).setCell ⟨lb, 2, none⟩ (.int .i64 0)).setCell ⟨lb, 3, none⟩ (.string l.s)).setCell ⟨lb, 4, none⟩ (.int .u8 l.nl)) b t cs :=
  ((((h.far (p := ⟨lb, 0, none⟩) hne _).far (p := ⟨lb, 1, none⟩) hne _).far (p := ⟨lb, 2, none⟩) hne _).far (p := ⟨lb, 3, none⟩) hne _).far (p := ⟨lb, 4, none⟩) hne _
theorem Blk.lnKept {base b : Nat} {w w' : World} {t : TypeId} {cs : Array Value} (h : Blk w b t cs) (hk : LnKept base w w') (ht : t ≠ 104) : Blk w' b t cs :=
  h.mod hk (fun ⟨_, _, h'⟩ => Blk.ne_ h h' ht rfl)
theorem IsPS.lnKept {base g : Nat} {w w' : World} {r : PSr} (h : IsPS w g r) (hk : LnKept base w w') : IsPS w' g r := Blk.lnKept h hk (by decide)
theorem own_lnKept {base b : Nat} {w w' : World} {e : TypeId} {size n : Nat} {v : Value} {xs : List Value} (h : w.ownsRow b e size v n xs) (hk : LnKept base w w') (ht : e ≠ 104) : w'.ownsRow b e size v n xs :=
  own_mod h hk (fun _ hk' ⟨_, _, h'⟩ => own_ne h h' ht hk'.symm)
theorem IsStack.lnKept {base B : Nat} {w w' : World} {s : Sl} {es : List Ent} (h : IsStack w B s es) (hk : LnKept base w w') : IsStack w' B s es := ⟨h.1, own_lnKept h.2 hk (by decide)⟩
theorem Below.lnKept {base B : Nat} {a w w' : World} (h : Below B a w) (hk : LnKept base w w') (hB : B ≤ base) (hz : B ≤ w.heap.size) : Below B a w' := h.trans (Mod.toBelow hk hz (fun k hlt ⟨hb, _⟩ => by omega))
/-- Whether the open block's last line is this one: the line was not blank, and it was taken, or cut. -/
def updB (l l' : Ln) (ok : Bool) : Bool := !l.blank && (ok || !(decide ((l'.i : Int) = l.i) && (decide (l'.s.toList = l.s.toList) && decide (l'.nl = l.nl))))
/-- The world with the end line of entry k + 1 put in, where that is due. -/
def updW (sb k : Nat) (lineno : Int) (b : Bool) (w : World) : World := if b then w.setCell ⟨sb, (k + 1) * 4 + 3, none⟩ (.int .i64 lineno) else w
/-- What is known of a parseState while a line is read. -/
def AtLine (g sb cap n : Nat) (lineno : Int) (k : Nat) (w : World) : Prop :=
  ∃ r cs, IsPS w g r ∧ r.lineDepth = k ∧ r.lineno = lineno ∧ r.stack = ⟨some ⟨sb, 0, none⟩, n, cap⟩ ∧ Blk w sb 121 cs ∧ n ≤ cap ∧ cap * 4 ≤ cs.size ∧ n ≤ 1000000
/-- What the blocks and the starters do with a line, from level 0 on. -/
structure AddH (g base sb cap n : Nat) (lineno : Int) (J E : Nat → Ln → World → Prop) (P : Nat → Ln → Ln → Bool → World → Prop) (Q : World → Prop) : Prop where
  pos : 0 < n
  atJ : ∀ k l w, J k l w → AtLine g sb cap n lineno k w ∧ k < n
  atP : ∀ k l l' ok w, P k l l' ok w → AtLine g sb cap n lineno k w
  atE : ∀ d l w, E d l w → AtLine g sb cap n lineno d w ∧ d < n
  keepJ : ∀ k l w w', J k l w → LnKept base w w' → J k l w'
  keepP : ∀ k l l' ok w w', P k l l' ok w → LnKept base w w' → P k l l' ok w'
  keepE : ∀ d l w w', E d l w → LnKept base w w' → E d l w'
  keepQ : ∀ w w', Q w → LnKept base w w' → Q w'
  ext : ∀ k l w, J k l w → k + 1 < n → l.ok → ∃ bt bv f x, w.cell? ⟨sb, (k + 1) * 4, none⟩ = some (.iface bt bv) ∧ (∀ W, (method 475 bt bv "pub-paratext/pub/rscmarkdown.extend").run Tryz.prog W = .ok (f, x) W) ∧ (∀ args W, (callFunc f args).run Tryz.prog W = .ok (.enter f args) W) ∧
    ∃ l' ok, Ln.ok l' ∧ Calls Tryz.prog f #[x, .pointer (some ⟨g, 0, none⟩), l.v] w fun e w' => e = .returned (.tuple #[l'.v, .bool ok]) ∧ P k l l' ok w' ∧ w.heap.size ≤ w'.heap.size ∧ ∀ lb cs, base ≤ lb → Blk w lb 104 cs → Blk w' lb 104 cs
  yes : ∀ k l l' w, P k l l' true w → k + 1 < n → J (k + 1) l' ((updW sb k lineno (updB l l' true) w).setCell ⟨g, 5, none⟩ (.int .i64 ((k : Int) + 1)))
  no : ∀ k l l' w, P k l l' false w → k + 1 < n → E k l' (updW sb k lineno (updB l l' false) w)
  last : ∀ l w, J (n - 1) l w → E (n - 1) l w
  blank : ∀ d l w, E d l w → l.blank = true → Calls Tryz.prog 55 #[.pointer (some ⟨g, 0, none⟩), .int .i64 ((d : Int) + 1)] w fun e w' => e = .returned (.tuple #[]) ∧ Q w'
  start : ∀ d l, l.blank = false → l.ok → ∃ k, k ≤ 8 ∧ (∀ i f w, i < k → newsL[i]? = some f → E d l w → Calls Tryz.prog f #[.pointer (some ⟨g, 0, none⟩), l.v] w fun e w' => e = .returned (.tuple #[l.v, .bool false]) ∧ LnKept base w w' ∧ ∀ lb cs, base ≤ lb → Blk w lb 104 cs → Blk w' lb 104 cs) ∧
    (∀ f w, newsL[k]? = some f → E d l w → Calls Tryz.prog f #[.pointer (some ⟨g, 0, none⟩), l.v] w fun e w' => e = .returned (.tuple #[Ln.nil.v, .bool true]) ∧ Q w' ∧ w.heap.size ≤ w'.heap.size ∧ ∀ lb cs, base ≤ lb → Blk w lb 104 cs → Blk w' lb 104 cs) ∧
    (k = 8 → ∀ w, E d l w → Calls Tryz.prog 62 #[.pointer (some ⟨g, 0, none⟩), l.v] w fun e w' => (∃ v, e = .returned v) ∧ Q w')
/-- How far the open blocks have been asked. -/
def PreR (base lb n : Nat) (J : Nat → Ln → World → Prop) (wr : World) : Prop := ∃ k l, J k l wr ∧ k < n ∧ l.ok ∧ Blk wr lb 104 l.C ∧ base ≤ lb
def AskedR (base lb : Nat) (E : Nat → Ln → World → Prop) (wr : World) : Prop := ∃ d l, E d l wr ∧ l.ok ∧ Blk wr lb 104 l.C ∧ base ≤ lb
def StartR (nb lb m d : Nat) (l : Ln) (E : Nat → Ln → World → Prop) (t : Value) (wr : World) : Prop := ∃ i : Nat, i ≤ m ∧ t = .int .i64 i ∧ Blk wr nb 124 newsC ∧ Blk wr lb 104 l.C ∧ E d l wr
def depthOf (w : World) (g : Nat) : Nat := match w.cell? ⟨g, 5, none⟩ with
  | some v => (intOf v).toNat
  | none => 0
theorem depthOf_ps {w : World} {g : Nat} {r : PSr} {k : Nat} (h : IsPS w g r) (hk : r.lineDepth = k) : depthOf w g = k := by
  unfold depthOf; rw [h.c5, hk]; simp [intOf]
set_option maxRecDepth 20000 in
set_option maxHeartbeats 8000000 in
theorem addLine_gen (g sb cap n : Nat) (lineno : Int) (J E : Nat → Ln → World → Prop) (P : Nat → Ln → Ln → Bool → World → Prop) (Q : World → Prop) (l0 : Ln) (w : World) (r : PSr) (hps : IsPS w g r) (hl0 : l0.ok) (hi0 : l0.i = 0)
    (H : AddH g w.heap.size sb cap n lineno J E P Q) (h0 : J 0 l0 (w.setCell ⟨g, 5, none⟩ (.int .i64 0))) :
    Calls Tryz.prog 54 #[.pointer (some ⟨g, 0, none⟩), l0.v] w fun e w' => e = .returned (.tuple #[]) ∧ Q w' := by
  have HH := hid H
  have HJ0 := hid h0
  have hg := hps.lt
  have c5 := hps.c5
  have f1 := hps.free
  have hgn : ¬ g = w.heap.size := by omega
  clear H h0 hps
  go_enter Tryz.func54, Tryz.ntmps54
  go_wp2_with fail
  go_step3
  go_upto_block 0 with fail
  go_cut [] (fun wx => AskedR w.heap.size w.heap.size E wx)
  case first =>
    go_wp2_with fail
    go_loopw [] (fun wr => PreR w.heap.size w.heap.size n J wr) (fun wr => n - depthOf wr g)
    case atStart => exact ⟨0, l0, HH.out.keepJ _ _ _ _ HJ0.out ((LnKept.refl _ _).alloc _), HH.out.pos, hl0, (by rw [show l0.C = #[.int .i64 0, .int .i64 0, .int .i64 0, .string l0.s, .int .u8 l0.nl] from by unfold Ln.C; rw [hi0]; rfl]; exact Blk.new' (by simp [World.setCell])), Nat.le_refl _⟩
    case round =>
      clear c5 f1
      obtain ⟨k, l, hj, hk, hlok, hbox, hbb⟩ := hrel
      have HJ := hid hj
      have HBOX := hid hbox
      have HOK := hid hlok
      clear hj hbox hlok hbb
      obtain ⟨⟨r1, cs, hps, hd, hln, hst, hsb, hcap, hcs, hn⟩, hkn⟩ := HH.out.atJ k l wr HJ.out
      have c5 := hps.c5
      have c4 := hps.c4
      rw [hd] at c5
      rw [hst] at c4
      dsimp only at c4
      have hdep := hid (depthOf_ps hps hd)
      have hisl : IsLn wr w.heap.size l.i 0 l.s l.nl := HBOX.out
      have b0 := hisl.c0
      have b1 := hisl.c1
      have b2 := hisl.c2
      have b3 := hisl.c3
      have b4 := hisl.c4
      clear hisl
      have HPS := hid hps
      have HSB := hid hsb
      have hbg : ¬ w.heap.size = g := by omega
      have hlb := Blk.lt HBOX.out
      clear hps hsb hd hln hst
      by_cases hlt : k + 1 < n
      · go_wp2_with fail
        go_quiet (fail)
        have HJa : Hid (J k l (wr.drewN nq)) := hid (HH.out.keepJ _ _ _ _ HJ.out ((LnKept.refl _ _).drewN _))
        have HLa : Hid (IsLn (wr.drewN nq) w.heap.size l.i 0 l.s l.nl) := hid HBOX.out
        have HPa : Hid (IsPS (wr.drewN nq) g r1) := hid HPS.out
        have HSa : Hid (Blk (wr.drewN nq) sb 121 cs) := hid HSB.out
        have hza : w.heap.size < (wr.drewN nq).heap.size := hlb
        clear c4 c5 b0 b1 b2 b3 b4 HJ HBOX HPS HSB hlb
        generalize wr.drewN nq = wa at HJa HLa HPa HSa hza ⊢
        have b0 := HLa.out.c0
        have b1 := HLa.out.c1
        have b2 := HLa.out.c2
        have b3 := HLa.out.c3
        have b4 := HLa.out.c4
        go_wp2_with fail
        have hJb : Hid (J k l (World.alloc _ _)) := hid (HH.out.keepJ _ _ _ _ HJa.out ((LnKept.refl _ _).alloc (.cells #[.int .i64 0, .int .i64 l.i, .int .i64 0, .string l.s, .int .u8 l.nl] 104)))
        have hLb : Hid (Blk (World.alloc _ _) w.heap.size 104 l.C) := hid (Blk.alloc HLa.out (.cells #[.int .i64 0, .int .i64 l.i, .int .i64 0, .string l.s, .int .u8 l.nl] 104))
        have hOb : Hid (Blk (World.alloc _ _) wa.heap.size 104 l.C) := hid (Blk.new wa 104 #[.int .i64 0, .int .i64 l.i, .int .i64 0, .string l.s, .int .u8 l.nl])
        clear b0 b1 b2 b3 b4 HJa HLa HPa HSa
        generalize World.alloc _ _ = wb at hJb hLb hOb ⊢
        have hJd : Hid (J k l wb.drew) := hid (HH.out.keepJ _ _ _ _ hJb.out ((LnKept.refl _ _).drewN 1))
        obtain ⟨⟨r2, cs2, hps2, hd2, hln2, hst2, hsb2, hcap2, hcs2, hn2⟩, _⟩ := HH.out.atJ k l wb hJb.out
        obtain ⟨bt, bv, f, x, hcell, hmeth, hent, l', ok, hlok', hcall⟩ := HH.out.ext k l wb.drew hJd.out hlt HOK.out
        have q4 := hps2.c4
        have q5 := hps2.c5
        rw [hst2] at q4
        rw [hd2] at q5
        dsimp only at q4
        have x4 : wb.drew.cell? ⟨g, 4, none⟩ = some (.slice (some ⟨sb, 0, none⟩) n cap) := q4
        have x5 : wb.drew.cell? ⟨g, 5, none⟩ = some (.int .i64 k) := q5
        have q0 : wb.cell? ⟨sb, (k + 1) * 4, none⟩ = some (.iface bt bv) := hcell
        have hLd : IsLn wb w.heap.size l.i 0 l.s l.nl := hLb.out
        have b0 := hLd.c0
        have b1 := hLd.c1
        have b2 := hLd.c2
        have b3 := hLd.c3
        have b4 := hLd.c4
        have hcall' : Calls Tryz.prog f #[x, .pointer (some ⟨g, 0, none⟩), .agg #[.int .i64 0, .int .i64 l.i, .int .i64 0, .string l.s, .int .u8 l.nl]] wb.drew (fun e w' => e = .returned (.tuple #[.agg #[.int .i64 0, .int .i64 l'.i, .int .i64 0, .string l'.s, .int .u8 l'.nl], .bool ok]) ∧ P k l l' ok w' ∧ wb.drew.heap.size ≤ w'.heap.size ∧ ∀ lb cs, w.heap.size ≤ lb → Blk wb.drew lb 104 cs → Blk w' lb 104 cs) := hcall
        have HCALL := hid hcall'
        clear hcall'
        have HOK' := hid hlok'
        clear hcall hps2 hd2 hln2 hst2 hsb2 hcap2 hcs2 hLd hlok'
        have e1 : IntKind.i64.wrap ((k : Int) + 1) = (k : Int) + 1 := IntWalk.i64_in _ (by omega)
        have e2 : (0 : Int) ≤ (k : Int) + 1 := by omega
        have e3 : ((k : Int) + 1).toNat = k + 1 := by omega
        have e4 : (k : Int) + 1 < (n : Int) := by omega
        go_cut [5] (fun t5 wx => t5 = .bool ok ∧ P k l l' ok wx ∧ Blk wx w.heap.size 104 l'.C ∧ Blk wx wa.heap.size 104 l.C)
        case first =>
          go_region_with (first
            | (refine HCALL.out.mono ?_; rintro e w3 ⟨rfl, hp3, hz3, hk3⟩
               have hb3 := hk3 _ _ (Nat.le_refl _) (show Blk wb.drew w.heap.size 104 _ from hLb.out)
               have ho3 := hk3 _ _ (Nat.le_of_lt hza) (show Blk wb.drew wa.heap.size 104 _ from hOb.out)
               have hl3 : IsLn w3 w.heap.size l.i 0 l.s l.nl := hb3
               have z0 := hl3.c0
               have z1 := hl3.c1
               have z2 := hl3.c2
               have z3 := hl3.c3
               have z4 := hl3.c4
               have fz := hb3.free))
          all_goals go_wp2
          all_goals go_meet
          all_goals exact ⟨rfl, HH.out.keepP _ _ _ _ _ _ hp3 (LnKept.fill (Nat.le_refl _) hb3 l'), Ln.fill hb3 l', Blk.fillFar ho3 (Nat.ne_of_gt hza) l'⟩
        case rest =>
          obtain ⟨rfl, hp, hbx, hox⟩ := hcut
          clear q4 q5 q0 x4 x5 b0 b1 b2 b3 b4 e1 e2 e3 e4 hcell hmeth hent HCALL hJd hLb hOb hJb
          have HP := hid hp
          have HBX := hid hbx
          have HOX := hid hox
          clear hp hbx hox
          obtain ⟨r3, cs3, hps3, hd3, hln3, hst3, hsb3, hcap3, hcs3, hn3⟩ := HH.out.atP k l l' ok wc HP.out
          have HPS3 := hid hps3
          have HD3 := hid hd3
          have HN3 := hid hln3
          have HT3 := hid hst3
          have HSB3 := hid hsb3
          clear hps3 hd3 hln3 hst3 hsb3
          go_wp2_with fail
          refine (isBlank_any wa.heap.size l.s l.i _ HOK.out.1 (by have := HOK.out.2; omega) (HOX.out.at_ 1 rfl) (HOX.out.at_ 3 rfl)).mono ?_
          rintro e w5 ⟨rfl, n5, rfl⟩
          have hbl0 : (trimL (l.s.data.toList.drop l.i)).isEmpty = l.blank := rfl
          rw [hbl0]
          have hP5 : Hid (P k l l' ok (wc.drewN n5)) := hid (HH.out.keepP _ _ _ _ _ _ HP.out ((LnKept.refl _ _).drewN _))
          have hB5 : Hid (Blk (wc.drewN n5) w.heap.size 104 l'.C) := hid HBX.out
          have hO5 : Hid (Blk (wc.drewN n5) wa.heap.size 104 l.C) := hid HOX.out
          have hS5 : Hid (IsPS (wc.drewN n5) g r3) := hid HPS3.out
          have hK5 : Hid (Blk (wc.drewN n5) sb 121 cs3) := hid HSB3.out
          clear HP HBX HOX HPS3 HSB3 hbl0
          generalize wc.drewN n5 = wd at hP5 hB5 hO5 hS5 hK5 ⊢
          cases hbl : l.blank with
          | true =>
            have c5 := hS5.out.c5
            have f5 := hS5.out.free
            rw [HD3.out] at c5
            cases ok with
            | true =>
              go_wp2_with fail
              have hj' := HH.out.yes k l l' wd hP5.out hlt
              rw [show updB l l' true = false from by unfold updB; rw [hbl]; rfl] at hj'
              refine ⟨⟨k + 1, l', hj', hlt, HOK'.out, Blk.far hB5.out (p := ⟨g, 5, none⟩) hbg _, Nat.le_refl _⟩, ?_⟩
              rw [depthOf_ps (hS5.out.set5 ((k : Int) + 1)) (k := k + 1) (by simp), hdep.out]
              omega
            | false =>
              go_wp2_with fail
              go_meet
              have hj' := HH.out.no k l l' wd hP5.out hlt
              rw [show updB l l' false = false from by unfold updB; rw [hbl]; rfl] at hj'
              exact ⟨k, l', hj', HOK'.out, hB5.out, Nat.le_refl _⟩
          | false =>
            have c5 := hS5.out.c5
            have c4 := hS5.out.c4
            have c3 := hS5.out.c3
            have f5 := hS5.out.free
            rw [HD3.out] at c5
            rw [HT3.out] at c4
            rw [HN3.out] at c3
            dsimp only at c4
            have hix : (k + 1) * 4 + 3 < cs3.size := by omega
            have e7 := hK5.out.at_ ((k + 1) * 4 + 3) (Array.getElem?_eq_getElem hix)
            have ef := hK5.out.free
            have hld : IsLn wd w.heap.size l'.i 0 l'.s l'.nl := hB5.out
            have hod : IsLn wd wa.heap.size l.i 0 l.s l.nl := hO5.out
            have b0 := hld.c0
            have b1 := hld.c1
            have b2 := hld.c2
            have b3 := hld.c3
            have b4 := hld.c4
            have o0 := hod.c0
            have o1 := hod.c1
            have o2 := hod.c2
            have o3 := hod.c3
            have o4 := hod.c4
            cases ok with
            | true =>
              clear hld hod b0 b1 b2 b3 b4 o0 o1 o2 o3 o4
              have e1 : IntKind.i64.wrap ((k : Int) + 1) = (k : Int) + 1 := IntWalk.i64_in _ (by omega)
              have e2 : (0 : Int) ≤ (k : Int) + 1 := by omega
              have e3 : ((k : Int) + 1).toNat = k + 1 := by omega
              have e4 : (k : Int) + 1 < (n : Int) := by omega
              go_wp2_with fail
              go_region
              have hj' := HH.out.yes k l l' wd hP5.out hlt
              rw [show updB l l' true = true from by unfold updB; rw [hbl]; rfl] at hj'
              unfold updW at hj'
              rw [if_pos rfl] at hj'
              have hBx : Hid (Blk (wd.setCell ⟨sb, (k + 1) * 4 + 2 + 1, none⟩ (.int .i64 lineno)).drew w.heap.size 104 l'.C) := hid ((hB5.out.far (p := ⟨sb, (k + 1) * 4 + 2 + 1, none⟩) (Blk.ne_ hB5.out hK5.out (by decide)) _).drewN 1)
              have hSx : Hid (IsPS (wd.setCell ⟨sb, (k + 1) * 4 + 2 + 1, none⟩ (.int .i64 lineno)).drew g r3) := hid ((hS5.out.far (p := ⟨sb, (k + 1) * 4 + 2 + 1, none⟩) (Blk.ne_ hS5.out hK5.out (by decide)) _).drewN 1)
              have hJx : Hid (J (k + 1) l' ((wd.setCell ⟨sb, (k + 1) * 4 + 2 + 1, none⟩ (.int .i64 lineno)).drew.setCell ⟨g, 5, none⟩ (.int .i64 ((k : Int) + 1)))) := hid (HH.out.keepJ _ _ _ _ hj' ((LnKept.refl _ _).drewN 1))
              clear hj' c5 c4 c3 f5 e7 ef e1 e2 e3 e4
              generalize (World.setCell wd ⟨sb, (k + 1) * 4 + 2 + 1, none⟩ (.int .i64 lineno)).drew = we at hBx hSx hJx ⊢
              have c5 := hSx.out.c5
              have f5 := hSx.out.free
              rw [HD3.out] at c5
              go_wp2_with fail
              refine ⟨⟨k + 1, l', hJx.out, hlt, HOK'.out, Blk.far hBx.out (p := ⟨g, 5, none⟩) hbg _, Nat.le_refl _⟩, ?_⟩
              rw [depthOf_ps (hSx.out.set5 ((k : Int) + 1)) (k := k + 1) (by simp), hdep.out]
              omega
            | false =>
              clear hld hod
              have e1 : IntKind.i64.wrap ((k : Int) + 1) = (k : Int) + 1 := IntWalk.i64_in _ (by omega)
              have e2 : (0 : Int) ≤ (k : Int) + 1 := by omega
              have e3 : ((k : Int) + 1).toNat = k + 1 := by omega
              have e4 : (k : Int) + 1 < (n : Int) := by omega
              have hj' := hid (HH.out.no k l l' wd hP5.out hlt)
              go_wp2_with fail
              · go_meet
                refine ⟨k, l', ?_, HOK'.out, hB5.out, Nat.le_refl _⟩
                have h1 := hj'.out
                rw [show updB l l' false = false from by unfold updB; rw [hbl]; simp [*]] at h1
                exact h1
              all_goals
                have h1 := hj'.out
                rw [show updB l l' false = true from by unfold updB; rw [hbl]; simp [*]] at h1
                unfold updW at h1
                rw [if_pos rfl] at h1
                have HJ1 := hid h1
                clear h1 b0 b1 b2 b3 b4 o0 o1 o2 o3 o4
                go_region
                have hBx : Hid (Blk (wd.setCell ⟨sb, (k + 1) * 4 + 2 + 1, none⟩ (.int .i64 lineno)).drew w.heap.size 104 l'.C) := hid ((hB5.out.far (p := ⟨sb, (k + 1) * 4 + 2 + 1, none⟩) (Blk.ne_ hB5.out hK5.out (by decide)) _).drewN 1)
                have hEx : Hid (E k l' (wd.setCell ⟨sb, (k + 1) * 4 + 2 + 1, none⟩ (.int .i64 lineno)).drew) := hid (HH.out.keepE _ _ _ _ HJ1.out ((LnKept.refl _ _).drewN 1))
                go_wp2_with fail
                go_meet
                exact ⟨k, l', hEx.out, HOK'.out, hBx.out, Nat.le_refl _⟩
      · obtain rfl : n = k + 1 := by omega
        go_wp2_with fail
        go_quiet (fail)
        go_wp2_with fail
        go_meet
        exact ⟨k, l, HH.out.keepE _ _ _ _ (HH.out.last l wr HJ.out) ((LnKept.refl _ _).drewN _), HOK.out, HBOX.out.drewN _, Nat.le_refl _⟩
  case rest =>
    obtain ⟨d, l, he, hlok, hbox, _⟩ := hcut
    clear c5 f1 HJ0
    have HE := hid he
    have HBOX := hid hbox
    have HOK := hid hlok
    clear he hbox hlok
    go_wp2_with fail
    refine (isBlank_any w.heap.size l.s l.i _ HOK.out.1 (by have := HOK.out.2; omega) (HBOX.out.at_ 1 rfl) (HBOX.out.at_ 3 rfl)).mono ?_
    rintro e w1 ⟨rfl, n1, rfl⟩
    have hbl0 : (trimL (l.s.data.toList.drop l.i)).isEmpty = l.blank := rfl
    rw [hbl0]
    have hE1 : Hid (E d l (wc.drewN n1)) := hid (HH.out.keepE _ _ _ _ HE.out ((LnKept.refl _ _).drewN _))
    have hB1 : Hid (Blk (wc.drewN n1) w.heap.size 104 l.C) := hid HBOX.out
    clear HE HBOX hbl0
    generalize wc.drewN n1 = wd at hE1 hB1 ⊢
    cases hbl : l.blank with
    | true =>
      obtain ⟨⟨r3, cs3, hps3, hd3, _, _, _, _, _, hn3⟩, hdn⟩ := HH.out.atE d l wd hE1.out
      have c5 := hps3.c5
      rw [hd3] at c5
      clear hps3 hd3
      have htr := hid (HH.out.blank d l wd hE1.out hbl)
      go_wp2_with fail
      refine htr.out.mono ?_
      rintro e w2 ⟨rfl, hq⟩
      have HQ := hid hq
      clear hq
      go_wp2_with fail
      all_goals (try rw [Exit.noGoto_ret])
      go_returns
      exact ⟨rfl, HQ.out⟩
    | false =>
      obtain ⟨m, hm8, hdec, hacc, hpara⟩ := HH.out.start d l hbl HOK.out
      have HDEC := hid hdec
      have HACC := hid hacc
      have HPARA := hid hpara
      clear hdec hacc hpara
      go_wp2_with fail
      go_step3
      go_wp2_with fail
      refine (news_any _).mono ?_
      rintro e w2 ⟨nb, rfl, hnb, hblk, hb⟩
      have hkn := LnKept.below (base := w.heap.size) hb
      have hE2 := hid (HH.out.keepE _ _ _ _ hE1.out hkn)
      have hB2 := hid (Blk.mod hB1.out (Mod.below' (S := fun _ => False) hb) (fun h => h))
      have hN2 := hid hblk
      clear hblk hb hkn hE1 hB1
      go_wp2_with fail
      go_loopw [88] (fun t wr => StartR nb w.heap.size m d l E t wr) (fun t _ => 8 - (intOf t).toNat)
      case atStart => exact ⟨0, Nat.zero_le _, rfl, hN2.out, hB2.out, hE2.out⟩
      case round =>
        obtain ⟨i, hik, rfl, hN, hL, hE⟩ := hrel
        clear hN2 hB2 hE2
        have HN := hid hN
        have HL := hid hL
        have HE := hid hE
        unfold newsC at hN
        have q0 := hN.at_ 0 rfl
        have q1 := hN.at_ 1 rfl
        have q2 := hN.at_ 2 rfl
        have q3 := hN.at_ 3 rfl
        have q4 := hN.at_ 4 rfl
        have q5 := hN.at_ 5 rfl
        have q6 := hN.at_ 6 rfl
        have q7 := hN.at_ 7 rfl
        have hisl : IsLn wr w.heap.size l.i 0 l.s l.nl := hL
        have c0 := hisl.c0
        have c1 := hisl.c1
        have c2 := hisl.c2
        have c3 := hisl.c3
        have c4 := hisl.c4
        have fl := Blk.free hisl
        clear hN hL hE hisl
        rcases Nat.lt_or_ge i m with hlt | hge
        · have hi : i = 0 ∨ i = 1 ∨ i = 2 ∨ i = 3 ∨ i = 4 ∨ i = 5 ∨ i = 6 ∨ i = 7 := by omega
          rcases hi with rfl | rfl | rfl | rfl | rfl | rfl | rfl | rfl
          all_goals
            go_wp2_with fail
            refine (HDEC.out _ _ _ hlt rfl HE.out).mono ?_
            rintro e w3 ⟨rfl, hk3, hkl3⟩
            have HN3 := hid (HN.out.lnKept hk3 (by decide))
            have HL3 := hid (hkl3 _ _ (Nat.le_refl _) HL.out)
            have HE3 := hid (HH.out.keepE _ _ _ _ HE.out hk3)
            clear hk3 hkl3 q0 q1 q2 q3 q4 q5 q6 q7 c0 c1 c2 c3 c4 fl
            simp only [Ln.v, lnV]
            go_wp2_with fail
            refine ⟨?_, by simp [intOf]⟩
            iterate 25 (apply Exists.intro)
            refine ⟨?_, rfl⟩
            exact ⟨_ + 1, hlt, rfl, HN3.out.alloc _, HL3.out.alloc _, HH.out.keepE _ _ _ _ HE3.out ((LnKept.refl _ _).alloc _)⟩
        · obtain rfl : i = m := by omega
          by_cases hi8 : i = 8
          · subst hi8
            go_wp2_with fail
            refine (HPARA.out trivial _ HE.out).mono ?_
            rintro e w3 ⟨⟨v, rfl⟩, hq⟩
            have HQ := hid hq
            clear hq
            go_wp2_with fail
            simp only [Exit.noGoto]
            go_end0
            exact ⟨rfl, HQ.out⟩
          have hi : i = 0 ∨ i = 1 ∨ i = 2 ∨ i = 3 ∨ i = 4 ∨ i = 5 ∨ i = 6 ∨ i = 7 := by omega
          clear hi8
          rcases hi with rfl | rfl | rfl | rfl | rfl | rfl | rfl | rfl
          all_goals
            go_wp2_with fail
            refine (HACC.out _ _ rfl HE.out).mono ?_
            rintro e w3 ⟨rfl, hq, hsz, hkeep⟩
            have hl3 := hkeep _ _ (Nat.le_refl _) HL.out
            have fl3 := Blk.free hl3
            have d0 := Blk.at_ hl3 0 rfl
            have d1 := Blk.at_ hl3 1 rfl
            have d2 := Blk.at_ hl3 2 rfl
            have d3 := Blk.at_ hl3 3 rfl
            have d4 := Blk.at_ hl3 4 rfl
            have hlt3 := Blk.lt hl3
            have HQ := hid hq
            have HL3 := hid hl3
            clear hq hsz hkeep hl3 q0 q1 q2 q3 q4 q5 q6 q7 c0 c1 c2 c3 c4 fl
            simp only [Ln.v, lnV, Ln.nil]
            go_wp2_with fail
            have hln : Hid (Blk _ w.heap.size 104 _) := hid (Blk.alloc (line_zero HL3.out) (.cells #[.int .i64 0, .int .i64 0, .int .i64 0, .string ⟨#[]⟩, .int .u8 0] 104))
            have hmy : Hid (LnKept w.heap.size w3 _) := hid ((LnKept.fill (Nat.le_refl _) HL3.out Ln.nil).alloc (.cells #[.int .i64 0, .int .i64 0, .int .i64 0, .string ⟨#[]⟩, .int .u8 0] 104))
            unfold Ln.nil at hmy
            generalize World.alloc _ _ = wy at hln hmy ⊢
            clear d0 d1 d2 d3 d4 fl3
            refine (isBlank_any w.heap.size ⟨#[]⟩ 0 wy (Nat.zero_le _) (by simp [ByteArray.size]) (hln.out.at_ 1 rfl) (hln.out.at_ 3 rfl)).mono ?_
            rintro e w4 ⟨rfl, n4, rfl⟩
            have hE : (trimL (List.drop 0 (ByteArray.mk #[]).data.toList)).isEmpty = true := rfl
            rw [hE]
            go_wp2_with fail
            all_goals (try rw [Exit.noGoto_ret])
            go_returns
            exact ⟨rfl, HH.out.keepQ _ _ HQ.out (hmy.out.trans ((LnKept.refl _ _).drewN n4))⟩
end Go.Proofs.YtmmijmhdbpldpaaGreatDoor
/- What is owned: where it lies. -/

namespace Go.Proofs.YtmmijmhdbpldpaaGreatDoor
open Go.RowKit
theorem ownLt {w : World} {base : Nat} {e : TypeId} {size n : Nat} {v : Value} {xs : List Value} (h : w.ownsRow base e size v n xs) {k : Nat} (hk : some k = v.ownBlock) : k < w.heap.size := by
  rcases h.2 with ⟨rfl, _⟩ | ⟨g', cap, cur, rfl, hb, hh, _⟩
  · simp [Value.ownBlock] at hk
  · simp only [Value.ownBlock, Option.some.injEq] at hk
    subst hk
    exact Blk.lt (t := e) hh
theorem ownBase {w : World} {base : Nat} {e : TypeId} {size n : Nat} {v : Value} {xs : List Value} (h : w.ownsRow base e size v n xs) {k : Nat} (hk : some k = v.ownBlock) : base ≤ k := by
  rcases h.2 with ⟨rfl, _⟩ | ⟨g', cap, cur, rfl, hb, _⟩
  · simp [Value.ownBlock] at hk
  · simp only [Value.ownBlock, Option.some.injEq] at hk
    omega
theorem ownApart {w : World} {base base2 : Nat} {e e2 : TypeId} {size size2 n n2 : Nat} {v v2 : Value} {xs ys : List Value} (h : w.ownsRow base e size v n xs) (h2 : w.ownsRow base2 e2 size2 v2 n2 ys) (hne : e ≠ e2) {k : Nat} (hk : v.ownBlock = some k) : v2.ownBlock ≠ some k := by
  intro hk2
  rcases h.2 with ⟨rfl, _⟩ | ⟨g', cap, cur, rfl, _, hh, _⟩
  · simp [Value.ownBlock] at hk
  · rcases h2.2 with ⟨rfl, _⟩ | ⟨g2, cap2, cur2, rfl, _, hh2, _⟩
    · simp [Value.ownBlock] at hk2
    · simp only [Value.ownBlock, Option.some.injEq] at hk hk2
      subst hk
      subst hk2
      exact Blk.ne_ (t := e) hh hh2 hne rfl
end Go.Proofs.YtmmijmhdbpldpaaGreatDoor
/- The library's contracts on bytes.Buffer, laid at this program. -/







namespace Go.Proofs
open Go.Shelf
def Tryz.layWS_ren : Go.Shelf.Ren := ⟨fun | 178 => 245 | 251 => 246 | 252 => 247 | 181 => 248 | 184 => 238 | 290 => 249 | 324 => 250 | n => n, fun | 130 => 75 | 9 => 9 | 3 => 3 | 75 => 61 | 0 => 0 | 93 => 73 | 91 => 71 | 131 => 265 | 4 => 4 | 37 => 56 | 20 => 20 | 80 => 65 | 5 => 5 | n => n, fun | 14 => 9 | n => n⟩
theorem Tryz.layWS : Go.Proofs.LaysM.n178 Tryz.prog Tryz.layWS_ren := {
  mixed := by kernel_rfl
  f178 := Tryz.func245.trans (congrArg some (by kernel_rfl))
  f181 := Tryz.func248.trans (congrArg some (by kernel_rfl))
  f184 := Tryz.func238.trans (congrArg some (by kernel_rfl))
  f251 := Tryz.func246.trans (congrArg some (by kernel_rfl))
  f252 := Tryz.func247.trans (congrArg some (by kernel_rfl))
  f290 := Tryz.func249.trans (congrArg some (by kernel_rfl))
  f324 := Tryz.func250.trans (congrArg some (by kernel_rfl))
  t0 := Tryz.underlying0
  a0 := Tryz.isAgg0
  z0 := Tryz.sizeOf0
  v0 := Tryz.zeroValue0
  t3 := Tryz.underlying3
  a3 := Tryz.isAgg3
  z3 := Tryz.sizeOf3
  v3 := Tryz.zeroValue3
  t4 := Tryz.underlying4
  a4 := Tryz.isAgg4
  z4 := Tryz.sizeOf4
  v4 := Tryz.zeroValue4
  t9 := Tryz.underlying9
  a9 := Tryz.isAgg9
  z9 := Tryz.sizeOf9
  v9 := Tryz.zeroValue9
  t20 := Tryz.underlying20
  a20 := Tryz.isAgg20
  z20 := Tryz.sizeOf20
  v20 := Tryz.zeroValue20
  t37 := Tryz.underlying56
  a37 := Tryz.isAgg56
  z37 := Tryz.sizeOf56
  v37 := Tryz.zeroValue56
  t75 := Tryz.underlying61
  a75 := Tryz.isAgg61
  z75 := Tryz.sizeOf61
  v75 := Tryz.zeroValue61
  t91 := Tryz.underlying71
  a91 := Tryz.isAgg71
  z91 := Tryz.sizeOf71
  v91 := Tryz.zeroValue71
  t93 := Tryz.underlying73
  a93 := Tryz.isAgg73
  z93 := Tryz.sizeOf73
  v93 := Tryz.zeroValue73
  t130 := Tryz.underlying75
  a130 := Tryz.isAgg75
  z130 := Tryz.sizeOf75
  v130 := Tryz.zeroValue75
  t131 := Tryz.underlying265
  a131 := Tryz.isAgg265
  z131 := Tryz.sizeOf265
  v131 := Tryz.zeroValue265
  g14 := by kernel_rfl
  t5 := Tryz.underlying5
  a5 := Tryz.isAgg5
  z5 := Tryz.sizeOf5
  v5 := Tryz.zeroValue5
  t80 := Tryz.underlying65
  a80 := Tryz.isAgg65
  z80 := Tryz.sizeOf65
  v80 := Tryz.zeroValue65
  i0 := by kernel_rfl
  i3 := by kernel_rfl
  i4 := by kernel_rfl
  i5 := by kernel_rfl
  i9 := by kernel_rfl
  i20 := by kernel_rfl
  i37 := by kernel_rfl
  i75 := by kernel_rfl
  i80 := by kernel_rfl
  i91 := by kernel_rfl
  i93 := by kernel_rfl
  i130 := by kernel_rfl
  i131 := by kernel_rfl
  m14 := by kernel_rfl }
def Tryz.layWB_ren : Go.Shelf.Ren := ⟨fun | 179 => 259 | 251 => 246 | 252 => 247 | 181 => 248 | 184 => 238 | 290 => 249 | 324 => 250 | n => n, fun | 130 => 75 | 5 => 5 | 75 => 61 | 0 => 0 | 93 => 73 | 91 => 71 | 3 => 3 | 131 => 265 | 4 => 4 | 37 => 56 | 20 => 20 | 80 => 65 | 9 => 9 | n => n, fun | 14 => 9 | n => n⟩
theorem Tryz.layWB : Go.Proofs.LaysM.n179 Tryz.prog Tryz.layWB_ren := {
  mixed := by kernel_rfl
  f179 := Tryz.func259.trans (congrArg some (by kernel_rfl))
  f181 := Tryz.func248.trans (congrArg some (by kernel_rfl))
  f184 := Tryz.func238.trans (congrArg some (by kernel_rfl))
  f251 := Tryz.func246.trans (congrArg some (by kernel_rfl))
  f252 := Tryz.func247.trans (congrArg some (by kernel_rfl))
  f290 := Tryz.func249.trans (congrArg some (by kernel_rfl))
  f324 := Tryz.func250.trans (congrArg some (by kernel_rfl))
  t0 := Tryz.underlying0
  a0 := Tryz.isAgg0
  z0 := Tryz.sizeOf0
  v0 := Tryz.zeroValue0
  t3 := Tryz.underlying3
  a3 := Tryz.isAgg3
  z3 := Tryz.sizeOf3
  v3 := Tryz.zeroValue3
  t4 := Tryz.underlying4
  a4 := Tryz.isAgg4
  z4 := Tryz.sizeOf4
  v4 := Tryz.zeroValue4
  t5 := Tryz.underlying5
  a5 := Tryz.isAgg5
  z5 := Tryz.sizeOf5
  v5 := Tryz.zeroValue5
  t20 := Tryz.underlying20
  a20 := Tryz.isAgg20
  z20 := Tryz.sizeOf20
  v20 := Tryz.zeroValue20
  t37 := Tryz.underlying56
  a37 := Tryz.isAgg56
  z37 := Tryz.sizeOf56
  v37 := Tryz.zeroValue56
  t75 := Tryz.underlying61
  a75 := Tryz.isAgg61
  z75 := Tryz.sizeOf61
  v75 := Tryz.zeroValue61
  t91 := Tryz.underlying71
  a91 := Tryz.isAgg71
  z91 := Tryz.sizeOf71
  v91 := Tryz.zeroValue71
  t93 := Tryz.underlying73
  a93 := Tryz.isAgg73
  z93 := Tryz.sizeOf73
  v93 := Tryz.zeroValue73
  t130 := Tryz.underlying75
  a130 := Tryz.isAgg75
  z130 := Tryz.sizeOf75
  v130 := Tryz.zeroValue75
  t131 := Tryz.underlying265
  a131 := Tryz.isAgg265
  z131 := Tryz.sizeOf265
  v131 := Tryz.zeroValue265
  g14 := by kernel_rfl
  t9 := Tryz.underlying9
  a9 := Tryz.isAgg9
  z9 := Tryz.sizeOf9
  v9 := Tryz.zeroValue9
  t80 := Tryz.underlying65
  a80 := Tryz.isAgg65
  z80 := Tryz.sizeOf65
  v80 := Tryz.zeroValue65
  i0 := by kernel_rfl
  i3 := by kernel_rfl
  i4 := by kernel_rfl
  i5 := by kernel_rfl
  i9 := by kernel_rfl
  i20 := by kernel_rfl
  i37 := by kernel_rfl
  i75 := by kernel_rfl
  i80 := by kernel_rfl
  i91 := by kernel_rfl
  i93 := by kernel_rfl
  i130 := by kernel_rfl
  i131 := by kernel_rfl
  m14 := by kernel_rfl }
def Tryz.layBS_ren : Go.Shelf.Ren := ⟨fun | 182 => 42 | n => n, fun | 130 => 75 | 9 => 9 | 4 => 4 | 0 => 0 | 93 => 73 | 37 => 56 | 3 => 3 | 91 => 71 | 5 => 5 | n => n, fun | n => n⟩
theorem Tryz.layBS : Go.Proofs.LaysM.n182 Tryz.prog Tryz.layBS_ren := {
  mixed := by kernel_rfl
  f182 := Tryz.func42.trans (congrArg some (by kernel_rfl))
  t0 := Tryz.underlying0
  a0 := Tryz.isAgg0
  z0 := Tryz.sizeOf0
  v0 := Tryz.zeroValue0
  t3 := Tryz.underlying3
  a3 := Tryz.isAgg3
  z3 := Tryz.sizeOf3
  v3 := Tryz.zeroValue3
  t4 := Tryz.underlying4
  a4 := Tryz.isAgg4
  z4 := Tryz.sizeOf4
  v4 := Tryz.zeroValue4
  t9 := Tryz.underlying9
  a9 := Tryz.isAgg9
  z9 := Tryz.sizeOf9
  v9 := Tryz.zeroValue9
  t37 := Tryz.underlying56
  a37 := Tryz.isAgg56
  z37 := Tryz.sizeOf56
  v37 := Tryz.zeroValue56
  t93 := Tryz.underlying73
  a93 := Tryz.isAgg73
  z93 := Tryz.sizeOf73
  v93 := Tryz.zeroValue73
  t130 := Tryz.underlying75
  a130 := Tryz.isAgg75
  z130 := Tryz.sizeOf75
  v130 := Tryz.zeroValue75
  t5 := Tryz.underlying5
  a5 := Tryz.isAgg5
  z5 := Tryz.sizeOf5
  v5 := Tryz.zeroValue5
  t91 := Tryz.underlying71
  a91 := Tryz.isAgg71
  z91 := Tryz.sizeOf71
  v91 := Tryz.zeroValue71
  i0 := by kernel_rfl
  i3 := by kernel_rfl
  i4 := by kernel_rfl
  i5 := by kernel_rfl
  i9 := by kernel_rfl
  i37 := by kernel_rfl
  i91 := by kernel_rfl
  i93 := by kernel_rfl
  i130 := by kernel_rfl }
def Tryz.layLen_ren : Go.Shelf.Ren := ⟨fun | 181 => 248 | n => n, fun | 130 => 75 | 3 => 3 | 0 => 0 | 93 => 73 | 37 => 56 | 91 => 71 | 5 => 5 | n => n, fun | n => n⟩
theorem Tryz.layLen : Go.Proofs.LaysM.n181 Tryz.prog Tryz.layLen_ren := {
  mixed := by kernel_rfl
  f181 := Tryz.func248.trans (congrArg some (by kernel_rfl))
  t0 := Tryz.underlying0
  a0 := Tryz.isAgg0
  z0 := Tryz.sizeOf0
  v0 := Tryz.zeroValue0
  t3 := Tryz.underlying3
  a3 := Tryz.isAgg3
  z3 := Tryz.sizeOf3
  v3 := Tryz.zeroValue3
  t37 := Tryz.underlying56
  a37 := Tryz.isAgg56
  z37 := Tryz.sizeOf56
  v37 := Tryz.zeroValue56
  t93 := Tryz.underlying73
  a93 := Tryz.isAgg73
  z93 := Tryz.sizeOf73
  v93 := Tryz.zeroValue73
  t130 := Tryz.underlying75
  a130 := Tryz.isAgg75
  z130 := Tryz.sizeOf75
  v130 := Tryz.zeroValue75
  t5 := Tryz.underlying5
  a5 := Tryz.isAgg5
  z5 := Tryz.sizeOf5
  v5 := Tryz.zeroValue5
  t91 := Tryz.underlying71
  a91 := Tryz.isAgg71
  z91 := Tryz.sizeOf71
  v91 := Tryz.zeroValue71
  i0 := by kernel_rfl
  i3 := by kernel_rfl
  i5 := by kernel_rfl
  i37 := by kernel_rfl
  i91 := by kernel_rfl
  i93 := by kernel_rfl
  i130 := by kernel_rfl }
def Tryz.layBB_ren : Go.Shelf.Ren := ⟨fun | 183 => 271 | n => n, fun | 130 => 75 | 37 => 56 | 0 => 0 | 93 => 73 | 3 => 3 | 5 => 5 | 91 => 71 | n => n, fun | n => n⟩
theorem Tryz.layBB : Go.Proofs.LaysM.n183 Tryz.prog Tryz.layBB_ren := {
  mixed := by kernel_rfl
  f183 := Tryz.func271.trans (congrArg some (by kernel_rfl))
  t0 := Tryz.underlying0
  a0 := Tryz.isAgg0
  z0 := Tryz.sizeOf0
  v0 := Tryz.zeroValue0
  t3 := Tryz.underlying3
  a3 := Tryz.isAgg3
  z3 := Tryz.sizeOf3
  v3 := Tryz.zeroValue3
  t37 := Tryz.underlying56
  a37 := Tryz.isAgg56
  z37 := Tryz.sizeOf56
  v37 := Tryz.zeroValue56
  t93 := Tryz.underlying73
  a93 := Tryz.isAgg73
  z93 := Tryz.sizeOf73
  v93 := Tryz.zeroValue73
  t130 := Tryz.underlying75
  a130 := Tryz.isAgg75
  z130 := Tryz.sizeOf75
  v130 := Tryz.zeroValue75
  t5 := Tryz.underlying5
  a5 := Tryz.isAgg5
  z5 := Tryz.sizeOf5
  v5 := Tryz.zeroValue5
  t91 := Tryz.underlying71
  a91 := Tryz.isAgg71
  z91 := Tryz.sizeOf71
  v91 := Tryz.zeroValue71
  i0 := by kernel_rfl
  i3 := by kernel_rfl
  i5 := by kernel_rfl
  i37 := by kernel_rfl
  i91 := by kernel_rfl
  i93 := by kernel_rfl
  i130 := by kernel_rfl }
end Go.Proofs
/- HTML of a text whose document's blocks are known: each prints what it prints. -/



namespace Go.Proofs.YtmmijmhdbpldpaaGreatDoor
open Go.RowKit
def IsBuf (B b : Nat) (l : List UInt8) (w : World) : Prop := Lib.IsBuffer 73 5 B b (Lib.byteCells l) w
def Kept (b : Nat) (w w' : World) : Prop := Lib.OthersKept 5 (some b) w w'
/-- What a call that prints has done: the buffer holds more by 'out', nothing else that counts has turned. -/
def PrintP (B b : Nat) (bs out : List UInt8) (w : World) (e : Ending) (w' : World) : Prop :=
  e = .returned (.tuple #[]) ∧ IsBuf B b (bs ++ out) w' ∧ Below B w w' ∧ Kept b w w'
/-- The value y, printed into the buffer b that holds bs, gives out. -/
def Prints (w : World) (b : Nat) (bs : List UInt8) (y : Value) (out : List UInt8) : Prop :=
  ∃ u x f v, y = .iface u x ∧ (∀ W, (method 475 u x "PrintHTML").run Tryz.prog W = .ok (f, v) W) ∧ (∀ args W, (callFunc f args).run Tryz.prog W = .ok (.enter f args) W) ∧
    ∀ B W, Kept b w W → IsBuf B b bs W → B ≤ W.heap.size → bs.length + out.length ≤ 1000000 → Calls Tryz.prog f #[v, .pointer (some ⟨b, 0, none⟩)] W (PrintP B b bs out W)
theorem Blk.kept {w w' : World} {g b : Nat} {t : TypeId} {cs : Array Value} (h : Blk w g t cs) (hk : Kept b w w') (hb : g ≠ b) (ht : t ≠ 5) : Blk w' g t cs :=
  hk g _ h (by simpa using hb) (fun c fz e => by injection e with _ h2 _; exact ht h2)
theorem own_kept {w w' : World} {base : Nat} {e : TypeId} {size n b : Nat} {v : Value} {xs : List Value} (h : w.ownsRow base e size v n xs) (hk : Kept b w w') (hb : some b ≠ v.ownBlock) (ht : e ≠ 5) : w'.ownsRow base e size v n xs := by
  refine ⟨h.1, ?_⟩
  rcases h.2 with h0 | ⟨g', cap, cur, rfl, h2, hh, h1⟩
  · exact .inl h0
  · exact .inr ⟨g', cap, cur, rfl, h2, Blk.kept hh hk (fun e => hb (by simp [Value.ownBlock, e])) ht, h1⟩
theorem IsBuf.blk {B b : Nat} {l : List UInt8} {w : World} (h : IsBuf B b l w) : ∃ cs, Blk w b 73 cs := by
  obtain ⟨_, v, lr, hb, _⟩ := h
  exact ⟨_, hb⟩
theorem Prints.kept {w w' : World} {b : Nat} {bs : List UInt8} {y : Value} {out : List UInt8} (h : Prints w b bs y out) (hk : Kept b w w') : Prints w' b bs y out := by
  obtain ⟨u, x, f, v, hy, hm, he, hc⟩ := h
  exact ⟨u, x, f, v, hy, hm, he, fun B W hk' => hc B W (Lib.OthersKept.trans hk hk')⟩
/-- A string written into a buffer. -/
theorem write_str (B b : Nat) (bs : List UInt8) (s : ByteArray) (w : World) (h : IsBuf B b bs w) (hB : B ≤ w.heap.size) (hl : bs.length + s.size ≤ 2000000) :
    Calls Tryz.prog 245 #[.pointer (some ⟨b, 0, none⟩), .string s] w fun e w' => e = .returned (.tuple #[.int .i64 s.size, .nilIface]) ∧ IsBuf B b (bs ++ s.data.toList) w' ∧ Below B w w' ∧ Kept b w w' := by
  have hbl : (Lib.byteCells bs).length = bs.length := Lib.byteCells_length _
  refine Calls.mono (Any.Buffer_WriteString_kept Tryz.layWS B b (Lib.byteCells bs) s w h hB (Lib.byteCells_one _) (by rw [hbl]; omega)) ?_
  rintro e w' ⟨rfl, i, b1, k⟩
  exact ⟨rfl, by rw [← Lib.byteCells_append] at i; exact i, b1, k⟩
theorem buf_str (B b : Nat) (l : List UInt8) (w : World) (h : IsBuf B b l w) :
    Calls Tryz.prog 42 #[.pointer (some ⟨b, 0, none⟩)] w fun e w' => e = .returned (.string ⟨l.toArray⟩) ∧ ∃ n, w' = w.drewN n := Any.Buffer_String Tryz.layBS B b l w h
def DocR (B b n : Nat) (bs : List UInt8) (outs : List (List UInt8)) (w : World) (t : Value) (wr : World) : Prop :=
  ∃ i : Nat, i ≤ n ∧ t = .int .i64 i ∧ IsBuf B b (bs ++ (outs.take i).flatten) wr ∧ Below B w wr ∧ Kept b w wr
theorem take_flat (outs : List (List UInt8)) (i : Nat) (o : List UInt8) (h : outs[i]? = some o) : (outs.take (i + 1)).flatten = (outs.take i).flatten ++ o := by
  rw [List.take_add_one, h]
  simp
theorem take_len (outs : List (List UInt8)) (i : Nat) : (outs.take i).flatten.length ≤ outs.flatten.length := by
  conv => rhs; rw [← List.take_append_drop i outs, List.flatten_append, List.length_append]
  omega
set_option maxRecDepth 20000 in
set_option maxHeartbeats 1600000 in
theorem docHTML_any (B b d base : Nat) (bs : List UInt8) (sl el : Int) (inner : Sl) (m : Option Nat) (ys : List Value) (outs : List (List UInt8)) (w : World)
    (hblk : Blk w d 339 #[.int .i64 sl, .int .i64 el, inner.v, .map m]) (hrow : w.ownsRow base 69 1 inner.v inner.n ys) (hn : inner.n ≤ 1000000)
    (hbuf : IsBuf B b bs w) (hB : B ≤ w.heap.size) (hlo : outs.length = ys.length) (hp : ∀ (i : Nat) y o, ys[i]? = some y → outs[i]? = some o → Prints w b (bs ++ (outs.take i).flatten) y o) (hl : bs.length + outs.flatten.length ≤ 1000000) :
    Calls Tryz.prog 236 #[.pointer (some ⟨d, 0, none⟩), .pointer (some ⟨b, 0, none⟩)] w (PrintP B b bs outs.flatten w) := by
  have c2 : w.cell? ⟨d, 2, none⟩ = some (.slice inner.a inner.n inner.c) := by rw [hblk.cell]; rfl
  have hlen : ys.length = inner.n := by have := hrow.1; omega
  have hcells : ∀ i y, ys[i]? = some y → ∃ ib, inner.a = some ⟨ib, 0, none⟩ ∧ ∀ wr, Kept b w wr → wr.cell? ⟨ib, i, none⟩ = some y := by
    intro i y hy
    have hi : i < ys.length := (List.getElem?_eq_some_iff.1 hy).1
    rcases hrow.2 with ⟨_, h0⟩ | ⟨ib, cap, cur, h1, h2, hh, h3, h4, h5, h6⟩
    · omega
    · simp only [Sl.v, Value.slice.injEq] at h1
      refine ⟨ib, h1.1, fun wr hk => ?_⟩
      obtain ⟨cs, hcs⟩ := hbuf.blk
      have hne : ib ≠ b := Blk.ne_ (t := 69) hh hcs (by decide)
      have hbk : Blk wr ib 69 cur := Blk.kept hh hk hne (by decide)
      rw [hbk.cell i]
      have e1 : cur.toList[i]? = some y := by
        have : (cur.toList.take ys.length)[i]? = some y := by
          have e2 : cur.toList.take (ys.length) = ys := by rw [hlen]; simpa using h6
          rw [e2]; exact hy
        rw [List.getElem?_take] at this
        rw [if_pos hi] at this
        exact this
      simpa using e1
  have HC := hid hcells
  have HP := hid hp
  have HBUF := hid hbuf
  have HLO := hid hlo
  have HLEN := hid hlen
  clear hcells hp hbuf hlo hlen hrow hblk
  obtain ⟨ia, n, c⟩ := inner
  dsimp only at c2 hn HC HLEN
  by_cases hn0 : n = 0
  · subst hn0
    have ho : outs = [] := List.eq_nil_of_length_eq_zero (by rw [HLO.out, HLEN.out])
    subst ho
    go_enter Tryz.func236, Tryz.ntmps236
    go_wp2
    go_rounds 1
    go_end0
    exact ⟨rfl, by simpa using HBUF.out, Below.refl _ _, Lib.OthersKept.refl _ _ _⟩
  obtain ⟨ib, hia, _⟩ := HC.out 0 _ (List.getElem?_eq_getElem (by rw [HLEN.out]; omega))
  subst hia
  have HC2 : Hid (∀ i y, ys[i]? = some y → ∀ wr, Kept b w wr → wr.cell? ⟨ib, i, none⟩ = some y) := hid (fun i y hy => by
    obtain ⟨ib', h1, h2⟩ := HC.out i y hy
    cases h1
    exact h2)
  clear HC
  go_enter Tryz.func236, Tryz.ntmps236
  go_wp2_with fail
  go_loopw [11] (fun t wr => DocR B b n bs outs w t wr) (fun t _ => n - (intOf t).toNat)
  case atStart => exact ⟨0, Nat.zero_le _, rfl, by simpa using HBUF.out, Below.refl _ _, Lib.OthersKept.refl _ _ _⟩
  case round =>
    obtain ⟨i, hi, rfl, hbf, hbel, hk⟩ := hrel
    by_cases hlt : i < n
    · have hy : i < ys.length := by rw [HLEN.out]; exact hlt
      have ho : i < outs.length := by rw [HLO.out]; exact hy
      have hc := HC2.out i _ (List.getElem?_eq_getElem hy)
      obtain ⟨u, x, f, v, hyv, hm, he, hcall⟩ := HP.out i _ _ (List.getElem?_eq_getElem hy) (List.getElem?_eq_getElem ho)
      have hc' := hc wr hk
      rw [hyv] at hc'
      have htl := take_len outs i
      have htl1 := take_len outs (i + 1)
      have htf := take_flat outs i _ (List.getElem?_eq_getElem ho)
      rw [htf, List.length_append] at htl1
      have HCALL := hid (hcall B wr hk hbf (Nat.le_trans hB hbel.size) (by rw [List.length_append]; omega))
      have HTF := hid htf
      have HK := hid hk
      have HBL := hid hbel
      clear hk hbf hbel hc hyv hcall htf htl htl1
      go_wp2_with fail
      refine HCALL.out.mono ?_
      rintro e w1 ⟨rfl, hb1, hbl1, hk1⟩
      have HB1 := hid hb1
      have HBL1 := hid hbl1
      have HK1 := hid hk1
      clear hb1 hbl1 hk1
      go_wp2_with fail
      go_roundw
      case rel => exact ⟨i + 1, by omega, by go_num, by rw [HTF.out, ← List.append_assoc]; exact HB1.out, HBL.out.trans HBL1.out, Lib.OthersKept.trans HK.out HK1.out⟩
      case measure => simp [intOf]; omega
    · obtain rfl : i = n := by omega
      have ht : outs.take i = outs := List.take_of_length_le (by rw [HLO.out, HLEN.out]; exact Nat.le_refl _)
      rw [ht] at hbf
      have HBF := hid hbf
      have HBL := hid hbel
      have HK := hid hk
      clear hbf hbel hk ht
      go_wp2_with fail
      go_end0
      exact ⟨rfl, HBF.out, HBL.out, HK.out⟩
/-- The document d, printed, gives out. -/
def DocPrints (w : World) (d : Nat) (out : List UInt8) : Prop :=
  ∃ (sl el : Int) (inner : Sl) (m : Option Nat) (base : Nat) (ys : List Value) (outs : List (List UInt8)), Blk w d 339 #[.int .i64 sl, .int .i64 el, inner.v, .map m] ∧ w.ownsRow base 69 1 inner.v inner.n ys ∧ inner.n ≤ 1000000 ∧
    outs.flatten = out ∧ out.length ≤ 1000000 ∧ outs.length = ys.length ∧ ∀ (b i : Nat) y o, w.heap.size ≤ b → ys[i]? = some y → outs[i]? = some o → Prints w b (outs.take i).flatten y o
set_option maxRecDepth 20000 in
set_option maxHeartbeats 800000 in
theorem toHTML_doc (d : Nat) (out : List UInt8) (w : World) (h : DocPrints w d out) :
    Calls Tryz.prog 27 #[.iface 47 (.pointer (some ⟨d, 0, none⟩))] w fun e w' => e = .returned (.string ⟨out.toArray⟩) ∧ Below w.heap.size w w' := by
  obtain ⟨sl, el, inner, m, base, ys, outs, hblk, hrow, hn, rfl, hl, hlo, hp⟩ := h
  have hk0 : Kept w.heap.size w (w.alloc (.cells #[.slice none 0 0, .int .i64 0, .int .i8 0] 73)) := Lib.OthersKept.alloc (Lib.OthersKept.refl _ _ _) _
  have hdoc := hid (docHTML_any w.heap.size w.heap.size d base [] sl el inner m ys outs (w.alloc (.cells #[.slice none 0 0, .int .i64 0, .int .i8 0] 73)) (Blk.alloc hblk _) (World.ownsRow.alloc hrow _) hn (Lib.fresh_isBuffer _ _ _) (by simp) hlo (fun i y o hy ho => by rw [List.nil_append]; exact (hp _ i y o (Nat.le_refl _) hy ho).kept hk0) (by simpa using hl))
  clear hp hblk hrow hk0
  go_enter Tryz.func27, Tryz.ntmps27
  go_wp2_with (go_at_call 236; refine hdoc.out.mono ?_; rintro e w1 ⟨rfl, hb1, hbl1, hk1⟩; refine Hid.out ?_)
  refine Lib.hid ?_
  have HB1 := hid hb1
  have HBL1 := hid hbl1
  clear hb1 hbl1 hk1
  go_wp2_with (go_at_call 42; refine (buf_str w.heap.size w.heap.size _ _ HB1.out).mono ?_; rintro e w2 ⟨rfl, n, rfl⟩)
  go_ret
  exact ⟨rfl, below_drewN (((Below.refl _ _).alloc (Nat.le_refl _) _).trans HBL1.out) n⟩
def ParsedDoc (w : World) (out : List UInt8) (e : Ending) (w' : World) : Prop :=
  ∃ d, e = .returned (.pointer (some ⟨d, 0, none⟩)) ∧ DocPrints w' d out ∧ Below w.heap.size w w'
set_option maxRecDepth 20000 in
theorem HTML_gen (o : Opt) (s : ByteArray) (w : World) (out : List UInt8)
    (hP : ∀ g w1, Blk w1 g 77 o.parser → Calls Tryz.prog 29 #[.pointer (some ⟨g, 0, none⟩), .string s] w1 (ParsedDoc w1 out)) :
    Calls Tryz.prog 11 #[o.v, .string s] w fun e w' => e = .returned (.string ⟨out.toArray⟩) ∧ Below w.heap.size w w' := by
  have HP := hid hP
  clear hP
  obtain ⟨o0, o1, o2, o3, o4, o5, o6, o7, o8, o9⟩ := o
  have hv : (Opt.mk o0 o1 o2 o3 o4 o5 o6 o7 o8 o9).v = .agg #[.bool o0, .bool o1, .bool o2, .bool o3, .bool o4, .bool o5, .bool o6, .bool o7, .bool o8, .bool o9] := rfl
  rw [hv]
  go_enter Tryz.func11, Tryz.ntmps11
  go_wp2_with fail
  refine (parser_any ⟨o0, o1, o2, o3, o4, o5, o6, o7, o8, o9⟩ _).mono ?_
  rintro e w1 ⟨g, rfl, hg, hblk, hb⟩
  have HB := hid hb
  have HBL := hid hblk
  clear hblk hb
  go_wp2_with fail
  refine (HP.out g _ HBL.out).mono ?_
  rintro e w2 ⟨d, rfl, hd, hb2⟩
  have HB2 := hid hb2
  have HD := hid hd
  clear hb2 hd
  go_wp2_with fail
  refine (toHTML_doc d out _ HD.out).mono ?_
  rintro e w3 ⟨rfl, hb3⟩
  have HB3 := hid hb3
  clear hb3
  go_wp2_with fail
  go_ret
  exact ⟨rfl, ((((Below.refl _ _).alloc (Nat.le_refl _) _).trans (HB.out.mono (by simp))).trans (HB2.out.mono (Nat.le_trans (by simp) HB.out.size))).trans (HB3.out.mono (Nat.le_trans (Nat.le_trans (by simp) HB.out.size) HB2.out.size))⟩
theorem buf_len (B b : Nat) (l : List UInt8) (w : World) (h : IsBuf B b l w) :
    Calls Tryz.prog 248 #[.pointer (some ⟨b, 0, none⟩)] w fun e w' => e = .returned (.int .i64 (l.length : Int)) ∧ ∃ n, w' = w.drewN n := by
  refine Calls.mono (Any.Buffer_Len Tryz.layLen B b (Lib.byteCells l) w h) ?_
  rintro e w' ⟨rfl, h⟩
  exact ⟨by rw [Lib.byteCells_length], h⟩
end Go.Proofs.YtmmijmhdbpldpaaGreatDoor
/- The texts of the law FnBreak, in plain Lean: what a thematic break's line holds. -/


namespace Go.Proofs.YtmmijmhdbpldpaaGreatDoor
open Go.RowKit
theorem cat_lists (l m : List UInt8) : (ByteArray.mk l.toArray) ++ (ByteArray.mk m.toArray) = ⟨(l ++ m).toArray⟩ := by
  apply ByteArray.ext
  simp [ByteArray.data_append]
theorem bt_list (l : List UInt8) (k : Nat) : bt ⟨l.toArray⟩ k = match l[k]? with
    | some c => (c.toNat : Int)
    | none => 0 := by
  unfold bt
  by_cases h : k < l.length
  · rw [dif_pos (by simpa [ByteArray.size] using h), List.getElem?_eq_getElem h]
    rfl
  · rw [dif_neg (by simpa [ByteArray.size] using h), List.getElem?_eq_none (by omega)]
/-- A line made of up to j spaces, then i signs c with spaces behind them. -/
def BrkL (c : UInt8) (j i : Nat) (l : List UInt8) : Prop :=
  ∃ r, l = List.replicate j 32 ++ r ∧ (∀ x ∈ r, x = c ∨ x = 32) ∧ r.count c = i ∧ (i ≠ 0 → r.head? = some c) ∧ r.length ≤ 5 * i
/-- The same, where a sign has just been laid. -/
def BrkM (c : UInt8) (j i : Nat) (l : List UInt8) : Prop :=
  ∃ r, l = List.replicate j 32 ++ r ∧ (∀ x ∈ r, x = c ∨ x = 32) ∧ r.count c = i + 1 ∧ r.head? = some c ∧ r.length ≤ 5 * i + 1
theorem while_nil (p : UInt8 → Bool) : ∀ l : List UInt8, l.dropWhile p = [] → ∀ x ∈ l, p x = true := by
  intro l
  induction l with
  | nil => intro _ x hx; cases hx
  | cons a l ih =>
    intro h x hx
    rw [List.dropWhile_cons] at h
    by_cases ha : p a = true
    · rw [if_pos ha] at h
      rcases List.mem_cons.1 hx with e | e
      · rw [e]; exact ha
      · exact ih h x e
    · rw [if_neg ha] at h
      cases h
theorem brk_zero (c : UInt8) (j : Nat) : BrkL c j 0 (List.replicate j 32) := ⟨[], by simp, by simp, by simp, by simp, by simp⟩
theorem brk_sign {c : UInt8} {j i : Nat} {l : List UInt8} (h : BrkL c j i l) : BrkM c j i (l ++ [c]) := by
  obtain ⟨r, rfl, h1, h2, h3, h4⟩ := h
  refine ⟨r ++ [c], by simp, ?_, by simp [h2], ?_, by simp; omega⟩
  · intro x hx
    rcases List.mem_append.1 hx with hx | hx
    · exact h1 x hx
    · simp at hx; exact .inl hx
  · cases r with
    | nil => rfl
    | cons a r =>
      have hi : i ≠ 0 := by
        intro h0
        subst h0
        have := h4
        simp at this
      simpa using h3 hi
theorem brk_done {c : UInt8} {j i : Nat} {l : List UInt8} (h : BrkM c j i l) (hc : c ≠ 32) (n : Nat) (hn : n ≤ 4) : BrkL c j (i + 1) (l ++ List.replicate n 32) := by
  obtain ⟨r, rfl, h1, h2, h3, h4⟩ := h
  refine ⟨r ++ List.replicate n 32, by simp, ?_, ?_, ?_, by simp; omega⟩
  · intro x hx
    rcases List.mem_append.1 hx with hx | hx
    · exact h1 x hx
    · exact .inr (List.eq_of_mem_replicate hx)
  · rw [List.count_append, h2, List.count_replicate]
    simp [Ne.symm hc]
  · intro _
    cases r with
    | nil => simp at h3
    | cons a r => simpa using h3
theorem cnt_list (c : UInt8) (p r : List UInt8) : ∀ m, m ≤ r.length → cntB ⟨(p ++ r).toArray⟩ (c.toNat : Int) p.length (p.length + m) = (r.take m).count c := by
  intro m
  induction m with
  | zero => intro _; rw [Nat.add_zero, cntB_self]; simp
  | succ m ih =>
    intro h
    rw [← Nat.add_assoc]
    show cntB _ _ _ (p.length + m) + _ = _
    rw [ih (by omega), List.take_add_one, List.count_append, List.getElem?_eq_getElem (by omega : m < r.length)]
    congr 1
    have hb : bt ⟨(p ++ r).toArray⟩ (p.length + m) = ((r[m]'(by omega)).toNat : Int) := by
      rw [bt_list, List.getElem?_append_right (by omega), show p.length + m - p.length = m from by omega, List.getElem?_eq_getElem (by omega : m < r.length)]
    rw [hb]
    by_cases he : r[m] = c
    · rw [if_pos ⟨by omega, by rw [he]⟩]
      simp [he]
    · rw [if_neg (fun x => he (UInt8.toNat_inj.1 (by have := x.2; omega)))]
      simp [he]
/-- What the functions ask of such a line. -/
structure HRLine (l : List UInt8) (j : Nat) (c : Int) : Prop where
  j3 : j ≤ 3
  sp : ∀ k, 0 ≤ k → k < j → bt ⟨l.toArray⟩ k = 32
  js : j < (ByteArray.mk l.toArray).size
  at_ : bt ⟨l.toArray⟩ j = c
  cc : c = 42 ∨ c = 45 ∨ c = 95
  all : ∀ k, j ≤ k → k < (ByteArray.mk l.toArray).size → bt ⟨l.toArray⟩ k = c ∨ bt ⟨l.toArray⟩ k = 32
  three : 3 ≤ cntB ⟨l.toArray⟩ c j (ByteArray.mk l.toArray).size
theorem brk_line {c : UInt8} {j i : Nat} {l : List UInt8} (h : BrkL c j i l) (hj : j ≤ 3) (hc : c = 42 ∨ c = 45 ∨ c = 95) (hi : 3 ≤ i) : HRLine l j (c.toNat : Int) := by
  obtain ⟨r, rfl, h1, h2, h3, h4⟩ := h
  have h3' := h3 (by omega)
  have hr : 0 < r.length := by cases r with
    | nil => simp at h3'
    | cons a r => simp
  have hsz : (ByteArray.mk (List.replicate j 32 ++ r).toArray).size = j + r.length := by simp [ByteArray.size]
  have hbr : ∀ k (hk : k < r.length), bt ⟨(List.replicate j 32 ++ r).toArray⟩ (j + k) = (r[k].toNat : Int) := by
    intro k hk
    rw [bt_list, List.getElem?_append_right (by simp), List.length_replicate, show j + k - j = k from by omega, List.getElem?_eq_getElem hk]
  refine ⟨hj, ?_, by omega, ?_, ?_, ?_, ?_⟩
  · intro k _ hk
    rw [bt_list, List.getElem?_append_left (by simpa using hk), List.getElem?_replicate, if_pos hk]
    rfl
  · have := hbr 0 hr
    rw [Nat.add_zero] at this
    rw [this]
    cases r with
    | nil => simp at hr
    | cons a r => simp at h3'; simp [h3']
  · rcases hc with rfl | rfl | rfl
    · exact .inl rfl
    · exact .inr (.inl rfl)
    · exact .inr (.inr rfl)
  · intro k hk hs
    rw [hsz] at hs
    obtain ⟨m, rfl⟩ : ∃ m, k = j + m := ⟨k - j, by omega⟩
    rw [hbr m (by omega)]
    rcases h1 (r[m]'(by omega)) (List.getElem_mem _) with e | e
    · exact .inl (by rw [e])
    · exact .inr (by rw [e]; rfl)
  · have := cnt_list c (List.replicate j 32) r r.length (Nat.le_refl _)
    rw [List.length_replicate, List.take_length, h2] at this
    rw [hsz, this]
    exact hi
namespace HRLine
variable {l : List UInt8} {j : Nat} {c : Int}
theorem mem (h : HRLine l j c) : ∀ x ∈ l, (x.toNat : Int) = c ∨ (x.toNat : Int) = 32 := by
  intro x hx
  obtain ⟨k, hk, rfl⟩ := List.getElem_of_mem hx
  have hb : bt ⟨l.toArray⟩ k = (l[k].toNat : Int) := by rw [bt_list, List.getElem?_eq_getElem hk]
  rw [← hb]
  rcases Nat.lt_or_ge k j with h1 | h1
  · exact .inr (h.sp k (Nat.zero_le _) h1)
  · exact h.all k h1 (by simpa [ByteArray.size] using hk)
theorem not_ (h : HRLine l j c) (x : UInt8) (hx : x ≠ 42 ∧ x ≠ 45 ∧ x ≠ 95 ∧ x ≠ 32) : x ∉ l := by
  intro hm
  obtain ⟨a, b, d, e⟩ := hx
  rcases h.mem x hm with h1 | h1
  · rcases h.cc with h2 | h2 | h2
    · exact a (UInt8.toNat_inj.1 (by simp; omega))
    · exact b (UInt8.toNat_inj.1 (by simp; omega))
    · exact d (UInt8.toNat_inj.1 (by simp; omega))
  · exact e (UInt8.toNat_inj.1 (by simp; omega))
theorem bt_not (h : HRLine l j c) (x : Int) (hx : x ≠ 42 ∧ x ≠ 45 ∧ x ≠ 95 ∧ x ≠ 32 ∧ x ≠ 0) (k : Nat) : bt ⟨l.toArray⟩ k ≠ x := by
  rw [bt_list]
  obtain ⟨a, b, d, e, f⟩ := hx
  cases hk : l[k]? with
  | none => exact fun h => f h.symm
  | some y =>
    have hm : y ∈ l := List.mem_of_getElem? hk
    intro (h0 : (y.toNat : Int) = x)
    rcases h.mem y hm with h1 | h1
    · rcases h.cc with h2 | h2 | h2 <;> omega
    · omega
theorem next (h : HRLine l j c) : nextLine l = (l, 0, []) := by
  unfold nextLine
  rw [idxB_not l 13 (h.not_ 13 (by decide)), idxB_not l 10 (h.not_ 10 (by decide))]
  rfl
theorem ink (h : HRLine l j c) : (trimL l).isEmpty = false := by
  have hj : j < l.length := by have := h.js; simpa [ByteArray.size] using this
  have hb : bt ⟨l.toArray⟩ j = (l[j].toNat : Int) := by rw [bt_list, List.getElem?_eq_getElem hj]
  have h0 := h.at_
  rw [hb] at h0
  cases he : (trimL l).isEmpty with
  | false => rfl
  | true =>
    rw [List.isEmpty_iff, trimL] at he
    have hst := while_nil _ _ he l[j] (List.getElem_mem _)
    rw [isST_not (by rcases h.cc with h | h | h <;> omega) (by rcases h.cc with h | h | h <;> omega)] at hst
    cases hst
end HRLine
end Go.Proofs.YtmmijmhdbpldpaaGreatDoor
