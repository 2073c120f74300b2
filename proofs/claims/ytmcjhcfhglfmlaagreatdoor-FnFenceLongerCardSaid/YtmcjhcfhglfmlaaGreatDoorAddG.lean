/- A line is read: the open blocks are asked in turn, then the starters; if none takes it, a paragraph does. -/
import Derived.Test.YtmcjhcfhglfmlaaGreatDoorAdd
namespace Go.Proofs.YtmcjhcfhglfmlaaGreatDoor
open Go.RowKit
/-- A line without tabs, read as far as i. -/
structure Ln where
  i : Nat
  s : ByteArray
  nl : Int
@[reducible] def Ln.v (l : Ln) : Value := lnV l.i 0 l.s l.nl
@[reducible] def Ln.C (l : Ln) : Array Value := #[.int .i64 0, .int .i64 l.i, .int .i64 0, .string l.s, .int .u8 l.nl]
def Ln.ok (l : Ln) : Prop := l.i ≤ l.s.size ∧ l.s.size ≤ 1000000
def Ln.blank (l : Ln) : Bool := (trimL (l.s.data.toList.drop l.i)).isEmpty
def Ln.nil : Ln := ⟨0, ⟨#[]⟩, 0⟩
theorem Ln.nil_blank : Ln.nil.blank = true := rfl
theorem Ln.nil_ok : Ln.nil.ok := ⟨Nat.le_refl _, by decide⟩
/-- What differs are lines' boxes from base on, and what is new. -/
def LnKept (base : Nat) (w w' : World) : Prop := Mod (fun k => base ≤ k ∧ ∃ cs, Blk w k 104 cs) w w'
theorem LnKept.refl (base : Nat) (w : World) : LnKept base w w := Mod.refl _ _
theorem LnKept.trans {base : Nat} {a b c : World} (h : LnKept base a b) (h' : LnKept base b c) : LnKept base a c := by
  refine ⟨h'.os.trans h.os, h'.tape.trans h.tape, h'.output.trans h.output, Nat.le_trans h.size h'.size, fun k hk hn => ?_⟩
  have h1 := h.block k hk hn
  refine (h'.block k (Nat.lt_of_lt_of_le hk h.size) (fun ⟨x, cs, hx⟩ => hn ⟨x, cs, ?_⟩)).trans h1
  unfold Blk at hx ⊢
  rw [← h1]; exact hx
theorem LnKept.alloc {base : Nat} {a w : World} (h : LnKept base a w) (o : Obj) : LnKept base a (w.alloc o) := h.trans ((Mod.refl _ _).alloc o)
theorem LnKept.drewN {base : Nat} {a w : World} (h : LnKept base a w) (n : Nat) : LnKept base a (w.drewN n) := h.trans ((Mod.refl _ _).drewN n)
theorem LnKept.below {base : Nat} {a w : World} (h : Below a.heap.size a w) : LnKept base a w := Mod.below' h
/-- A line's box is filled anew. -/
theorem LnKept.fill {base lb : Nat} {w : World} {cs : Array Value} (hb : base ≤ lb) (h : Blk w lb 104 cs) (l : Ln) : LnKept base w (((((w.setCell ⟨lb, 0, none⟩ (.int .i64 0)).setCell ⟨lb, 1, none⟩ (.int .i64 l.i)).setCell ⟨lb, 2, none⟩ (.int .i64 0)).setCell ⟨lb, 3, none⟩ (.string l.s)).setCell ⟨lb, 4, none⟩ (.int .u8 l.nl)) := by
  refine (((((Mod.refl _ _).setCell (p := ⟨lb, 0, none⟩) ?_ _).setCell (p := ⟨lb, 1, none⟩) ?_ _).setCell (p := ⟨lb, 2, none⟩) ?_ _).setCell (p := ⟨lb, 3, none⟩) ?_ _).setCell (p := ⟨lb, 4, none⟩) ?_ _
  all_goals exact .inl ⟨hb, cs, h⟩
theorem Ln.fill {w : World} {lb : Nat} {a0 a1 a2 a3 a4 : Value} (h : Blk w lb 104 #[a0, a1, a2, a3, a4]) (l : Ln) : Blk (((((w.setCell ⟨lb, 0, none⟩ (.int .i64 0)).setCell ⟨lb, 1, none⟩ (.int .i64 l.i)).setCell ⟨lb, 2, none⟩ (.int .i64 0)).setCell ⟨lb, 3, none⟩ (.string l.s)).setCell ⟨lb, 4, none⟩ (.int .u8 l.nl)) lb 104 l.C := ln_store h l.i 0 l.nl l.s
theorem Blk.fillFar {w : World} {lb b : Nat} {t : TypeId} {cs : Array Value} (h : Blk w b t cs) (hne : b ≠ lb) (l : Ln) : Blk (((((w.setCell ⟨lb, 0, none⟩ (.int .i64 0)).setCell ⟨lb, 1, none⟩ (.int .i64 l.i)).setCell ⟨lb, 2, none⟩ (.int .i64 0)).setCell ⟨lb, 3, none⟩ (.string l.s)).setCell ⟨lb, 4, none⟩ (.int .u8 l.nl)) b t cs :=
  ((((h.far (p := ⟨lb, 0, none⟩) hne _).far (p := ⟨lb, 1, none⟩) hne _).far (p := ⟨lb, 2, none⟩) hne _).far (p := ⟨lb, 3, none⟩) hne _).far (p := ⟨lb, 4, none⟩) hne _
theorem Blk.lnKept {base b : Nat} {w w' : World} {t : TypeId} {cs : Array Value} (h : Blk w b t cs) (hk : LnKept base w w') (ht : t ≠ 104) : Blk w' b t cs :=
  h.mod hk (fun ⟨_, _, h'⟩ => Blk.ne_ h h' ht rfl)
theorem IsPS.lnKept {base g : Nat} {w w' : World} {r : PSr} (h : IsPS w g r) (hk : LnKept base w w') : IsPS w' g r := Blk.lnKept h hk (by decide)
theorem own_lnKept {base b : Nat} {w w' : World} {e : TypeId} {size n : Nat} {v : Value} {xs : List Value} (h : w.ownsRow b e size v n xs) (hk : LnKept base w w') (ht : e ≠ 104) : w'.ownsRow b e size v n xs :=
  own_mod h hk (fun _ hk' ⟨_, _, h'⟩ => own_ne h h' ht hk'.symm)
theorem IsStack.lnKept {base B : Nat} {w w' : World} {s : Sl} {es : List Ent} (h : IsStack w B s es) (hk : LnKept base w w') : IsStack w' B s es := ⟨h.1, own_lnKept h.2 hk (by decide)⟩
theorem Below.lnKept {base B : Nat} {a w w' : World} (h : Below B a w) (hk : LnKept base w w') (hB : B ≤ base) (hz : B ≤ w.heap.size) : Below B a w' := h.trans (Mod.toBelow hk hz (fun k hlt ⟨hb, _⟩ => by omega))
/-- Whether the open block's last line is this one: the line was not blank, and it was taken, or cut. -/
def updB (l l' : Ln) (ok : Bool) : Bool := !l.blank && (ok || !(decide ((l'.i : Int) = l.i) && (decide (l'.s.toList = l.s.toList) && decide (l'.nl = l.nl))))
/-- The world with the end line of entry k + 1 put in, where that is due. -/
def updW (sb k : Nat) (lineno : Int) (b : Bool) (w : World) : World := if b then w.setCell ⟨sb, (k + 1) * 4 + 3, none⟩ (.int .i64 lineno) else w
/-- What is known of a parseState while a line is read. -/
def AtLine (g sb cap n : Nat) (lineno : Int) (k : Nat) (w : World) : Prop :=
  ∃ r cs, IsPS w g r ∧ r.lineDepth = k ∧ r.lineno = lineno ∧ r.stack = ⟨some ⟨sb, 0, none⟩, n, cap⟩ ∧ Blk w sb 121 cs ∧ n ≤ cap ∧ cap * 4 ≤ cs.size ∧ n ≤ 1000000
/-- What the blocks and the starters do with a line, from level 0 on. -/
structure AddH (g base sb cap n : Nat) (lineno : Int) (J E : Nat → Ln → World → Prop) (P : Nat → Ln → Ln → Bool → World → Prop) (Q : World → Prop) : Prop where
  pos : 0 < n
  atJ : ∀ k l w, J k l w → AtLine g sb cap n lineno k w ∧ k < n
  atP : ∀ k l l' ok w, P k l l' ok w → AtLine g sb cap n lineno k w
  atE : ∀ d l w, E d l w → AtLine g sb cap n lineno d w ∧ d < n
  keepJ : ∀ k l w w', J k l w → LnKept base w w' → J k l w'
  keepP : ∀ k l l' ok w w', P k l l' ok w → LnKept base w w' → P k l l' ok w'
  keepE : ∀ d l w w', E d l w → LnKept base w w' → E d l w'
  keepQ : ∀ w w', Q w → LnKept base w w' → Q w'
  ext : ∀ k l w, J k l w → k + 1 < n → l.ok → ∃ bt bv f x, w.cell? ⟨sb, (k + 1) * 4, none⟩ = some (.iface bt bv) ∧ (∀ W, (method 475 bt bv "pub-paratext/pub/rscmarkdown.extend").run Tryz.prog W = .ok (f, x) W) ∧ (∀ args W, (callFunc f args).run Tryz.prog W = .ok (.enter f args) W) ∧
    ∃ l' ok, Ln.ok l' ∧ Calls Tryz.prog f #[x, .pointer (some ⟨g, 0, none⟩), l.v] w fun e w' => e = .returned (.tuple #[l'.v, .bool ok]) ∧ P k l l' ok w' ∧ w.heap.size ≤ w'.heap.size ∧ ∀ lb cs, base ≤ lb → Blk w lb 104 cs → Blk w' lb 104 cs
  yes : ∀ k l l' w, P k l l' true w → k + 1 < n → J (k + 1) l' ((updW sb k lineno (updB l l' true) w).setCell ⟨g, 5, none⟩ (.int .i64 ((k : Int) + 1)))
  no : ∀ k l l' w, P k l l' false w → k + 1 < n → E k l' (updW sb k lineno (updB l l' false) w)
  last : ∀ l w, J (n - 1) l w → E (n - 1) l w
  blank : ∀ d l w, E d l w → l.blank = true → Calls Tryz.prog 58 #[.pointer (some ⟨g, 0, none⟩), .int .i64 ((d : Int) + 1)] w fun e w' => e = .returned (.tuple #[]) ∧ Q w'
  start : ∀ d l, l.blank = false → l.ok → ∃ k, k ≤ 8 ∧ (∀ i f w, i < k → newsL[i]? = some f → E d l w → Calls Tryz.prog f #[.pointer (some ⟨g, 0, none⟩), l.v] w fun e w' => e = .returned (.tuple #[l.v, .bool false]) ∧ LnKept base w w' ∧ ∀ lb cs, base ≤ lb → Blk w lb 104 cs → Blk w' lb 104 cs) ∧
    (∀ f w, newsL[k]? = some f → E d l w → Calls Tryz.prog f #[.pointer (some ⟨g, 0, none⟩), l.v] w fun e w' => e = .returned (.tuple #[Ln.nil.v, .bool true]) ∧ Q w' ∧ w.heap.size ≤ w'.heap.size ∧ ∀ lb cs, base ≤ lb → Blk w lb 104 cs → Blk w' lb 104 cs) ∧
    (k = 8 → ∀ w, E d l w → Calls Tryz.prog 65 #[.pointer (some ⟨g, 0, none⟩), l.v] w fun e w' => (∃ v, e = .returned v) ∧ Q w')
/-- How far the open blocks have been asked. -/
def PreR (base lb n : Nat) (J : Nat → Ln → World → Prop) (wr : World) : Prop := ∃ k l, J k l wr ∧ k < n ∧ l.ok ∧ Blk wr lb 104 l.C ∧ base ≤ lb
def AskedR (base lb : Nat) (E : Nat → Ln → World → Prop) (wr : World) : Prop := ∃ d l, E d l wr ∧ l.ok ∧ Blk wr lb 104 l.C ∧ base ≤ lb
def StartR (nb lb m d : Nat) (l : Ln) (E : Nat → Ln → World → Prop) (t : Value) (wr : World) : Prop := ∃ i : Nat, i ≤ m ∧ t = .int .i64 i ∧ Blk wr nb 124 newsC ∧ Blk wr lb 104 l.C ∧ E d l wr
def depthOf (w : World) (g : Nat) : Nat := match w.cell? ⟨g, 5, none⟩ with
  | some v => (intOf v).toNat
  | none => 0
theorem depthOf_ps {w : World} {g : Nat} {r : PSr} {k : Nat} (h : IsPS w g r) (hk : r.lineDepth = k) : depthOf w g = k := by
  unfold depthOf; rw [h.c5, hk]; simp [intOf]
set_option maxRecDepth 20000 in
set_option maxHeartbeats 8000000 in
theorem addLine_gen (g sb cap n : Nat) (lineno : Int) (J E : Nat → Ln → World → Prop) (P : Nat → Ln → Ln → Bool → World → Prop) (Q : World → Prop) (l0 : Ln) (w : World) (r : PSr) (hps : IsPS w g r) (hl0 : l0.ok) (hi0 : l0.i = 0)
    (H : AddH g w.heap.size sb cap n lineno J E P Q) (h0 : J 0 l0 (w.setCell ⟨g, 5, none⟩ (.int .i64 0))) :
    Calls Tryz.prog 57 #[.pointer (some ⟨g, 0, none⟩), l0.v] w fun e w' => e = .returned (.tuple #[]) ∧ Q w' := by
  have HH := hid H
  have HJ0 := hid h0
  have hg := hps.lt
  have c5 := hps.c5
  have f1 := hps.free
  have hgn : ¬ g = w.heap.size := by omega
  clear H h0 hps
  go_enter Tryz.func57, Tryz.ntmps57
  go_wp2_with fail
  go_step3
  go_upto_block 0 with fail
  go_cut [] (fun wx => AskedR w.heap.size w.heap.size E wx)
  case first =>
    go_wp2_with fail
    go_loopw [] (fun wr => PreR w.heap.size w.heap.size n J wr) (fun wr => n - depthOf wr g)
    case atStart => exact ⟨0, l0, HH.out.keepJ _ _ _ _ HJ0.out ((LnKept.refl _ _).alloc _), HH.out.pos, hl0, (by rw [show l0.C = #[.int .i64 0, .int .i64 0, .int .i64 0, .string l0.s, .int .u8 l0.nl] from by unfold Ln.C; rw [hi0]; rfl]; exact Blk.new' (by simp [World.setCell])), Nat.le_refl _⟩
    case round =>
      clear c5 f1
      obtain ⟨k, l, hj, hk, hlok, hbox, hbb⟩ := hrel
      have HJ := hid hj
      have HBOX := hid hbox
      have HOK := hid hlok
      clear hj hbox hlok hbb
      obtain ⟨⟨r1, cs, hps, hd, hln, hst, hsb, hcap, hcs, hn⟩, hkn⟩ := HH.out.atJ k l wr HJ.out
      have c5 := hps.c5
      have c4 := hps.c4
      rw [hd] at c5
      rw [hst] at c4
      dsimp only at c4
      have hdep := hid (depthOf_ps hps hd)
      have hisl : IsLn wr w.heap.size l.i 0 l.s l.nl := HBOX.out
      have b0 := hisl.c0
      have b1 := hisl.c1
      have b2 := hisl.c2
      have b3 := hisl.c3
      have b4 := hisl.c4
      clear hisl
      have HPS := hid hps
      have HSB := hid hsb
      have hbg : ¬ w.heap.size = g := by omega
      have hlb := Blk.lt HBOX.out
      clear hps hsb hd hln hst
      by_cases hlt : k + 1 < n
      · go_wp2_with fail
        go_quiet (fail)
        have HJa : Hid (J k l (wr.drewN nq)) := hid (HH.out.keepJ _ _ _ _ HJ.out ((LnKept.refl _ _).drewN _))
        have HLa : Hid (IsLn (wr.drewN nq) w.heap.size l.i 0 l.s l.nl) := hid HBOX.out
        have HPa : Hid (IsPS (wr.drewN nq) g r1) := hid HPS.out
        have HSa : Hid (Blk (wr.drewN nq) sb 121 cs) := hid HSB.out
        have hza : w.heap.size < (wr.drewN nq).heap.size := hlb
        clear c4 c5 b0 b1 b2 b3 b4 HJ HBOX HPS HSB hlb
        generalize wr.drewN nq = wa at HJa HLa HPa HSa hza ⊢
        have b0 := HLa.out.c0
        have b1 := HLa.out.c1
        have b2 := HLa.out.c2
        have b3 := HLa.out.c3
        have b4 := HLa.out.c4
        go_wp2_with fail
        have hJb : Hid (J k l (World.alloc _ _)) := hid (HH.out.keepJ _ _ _ _ HJa.out ((LnKept.refl _ _).alloc (.cells #[.int .i64 0, .int .i64 l.i, .int .i64 0, .string l.s, .int .u8 l.nl] 104)))
        have hLb : Hid (Blk (World.alloc _ _) w.heap.size 104 l.C) := hid (Blk.alloc HLa.out (.cells #[.int .i64 0, .int .i64 l.i, .int .i64 0, .string l.s, .int .u8 l.nl] 104))
        have hOb : Hid (Blk (World.alloc _ _) wa.heap.size 104 l.C) := hid (Blk.new wa 104 #[.int .i64 0, .int .i64 l.i, .int .i64 0, .string l.s, .int .u8 l.nl])
        clear b0 b1 b2 b3 b4 HJa HLa HPa HSa
        generalize World.alloc _ _ = wb at hJb hLb hOb ⊢
        have hJd : Hid (J k l wb.drew) := hid (HH.out.keepJ _ _ _ _ hJb.out ((LnKept.refl _ _).drewN 1))
        obtain ⟨⟨r2, cs2, hps2, hd2, hln2, hst2, hsb2, hcap2, hcs2, hn2⟩, _⟩ := HH.out.atJ k l wb hJb.out
        obtain ⟨bt, bv, f, x, hcell, hmeth, hent, l', ok, hlok', hcall⟩ := HH.out.ext k l wb.drew hJd.out hlt HOK.out
        have q4 := hps2.c4
        have q5 := hps2.c5
        rw [hst2] at q4
        rw [hd2] at q5
        dsimp only at q4
        have x4 : wb.drew.cell? ⟨g, 4, none⟩ = some (.slice (some ⟨sb, 0, none⟩) n cap) := q4
        have x5 : wb.drew.cell? ⟨g, 5, none⟩ = some (.int .i64 k) := q5
        have q0 : wb.cell? ⟨sb, (k + 1) * 4, none⟩ = some (.iface bt bv) := hcell
        have hLd : IsLn wb w.heap.size l.i 0 l.s l.nl := hLb.out
        have b0 := hLd.c0
        have b1 := hLd.c1
        have b2 := hLd.c2
        have b3 := hLd.c3
        have b4 := hLd.c4
        have hcall' : Calls Tryz.prog f #[x, .pointer (some ⟨g, 0, none⟩), .agg #[.int .i64 0, .int .i64 l.i, .int .i64 0, .string l.s, .int .u8 l.nl]] wb.drew (fun e w' => e = .returned (.tuple #[.agg #[.int .i64 0, .int .i64 l'.i, .int .i64 0, .string l'.s, .int .u8 l'.nl], .bool ok]) ∧ P k l l' ok w' ∧ wb.drew.heap.size ≤ w'.heap.size ∧ ∀ lb cs, w.heap.size ≤ lb → Blk wb.drew lb 104 cs → Blk w' lb 104 cs) := hcall
        have HCALL := hid hcall'
        clear hcall'
        have HOK' := hid hlok'
        clear hcall hps2 hd2 hln2 hst2 hsb2 hcap2 hcs2 hLd hlok'
        have e1 : IntKind.i64.wrap ((k : Int) + 1) = (k : Int) + 1 := IntWalk.i64_in _ (by omega)
        have e2 : (0 : Int) ≤ (k : Int) + 1 := by omega
        have e3 : ((k : Int) + 1).toNat = k + 1 := by omega
        have e4 : (k : Int) + 1 < (n : Int) := by omega
        go_cut [5] (fun t5 wx => t5 = .bool ok ∧ P k l l' ok wx ∧ Blk wx w.heap.size 104 l'.C ∧ Blk wx wa.heap.size 104 l.C)
        case first =>
          go_region_with (first
            | (refine HCALL.out.mono ?_; rintro e w3 ⟨rfl, hp3, hz3, hk3⟩
               have hb3 := hk3 _ _ (Nat.le_refl _) (show Blk wb.drew w.heap.size 104 _ from hLb.out)
               have ho3 := hk3 _ _ (Nat.le_of_lt hza) (show Blk wb.drew wa.heap.size 104 _ from hOb.out)
               have hl3 : IsLn w3 w.heap.size l.i 0 l.s l.nl := hb3
               have z0 := hl3.c0
               have z1 := hl3.c1
               have z2 := hl3.c2
               have z3 := hl3.c3
               have z4 := hl3.c4
               have fz := hb3.free))
          all_goals go_wp2
          all_goals go_meet
          all_goals exact ⟨rfl, HH.out.keepP _ _ _ _ _ _ hp3 (LnKept.fill (Nat.le_refl _) hb3 l'), Ln.fill hb3 l', Blk.fillFar ho3 (Nat.ne_of_gt hza) l'⟩
        case rest =>
          obtain ⟨rfl, hp, hbx, hox⟩ := hcut
          clear q4 q5 q0 x4 x5 b0 b1 b2 b3 b4 e1 e2 e3 e4 hcell hmeth hent HCALL hJd hLb hOb hJb
          have HP := hid hp
          have HBX := hid hbx
          have HOX := hid hox
          clear hp hbx hox
          obtain ⟨r3, cs3, hps3, hd3, hln3, hst3, hsb3, hcap3, hcs3, hn3⟩ := HH.out.atP k l l' ok wc HP.out
          have HPS3 := hid hps3
          have HD3 := hid hd3
          have HN3 := hid hln3
          have HT3 := hid hst3
          have HSB3 := hid hsb3
          clear hps3 hd3 hln3 hst3 hsb3
          go_wp2_with fail
          refine (isBlank_any wa.heap.size l.s l.i _ HOK.out.1 (by have := HOK.out.2; omega) (HOX.out.at_ 1 rfl) (HOX.out.at_ 3 rfl)).mono ?_
          rintro e w5 ⟨rfl, n5, rfl⟩
          have hbl0 : (trimL (l.s.data.toList.drop l.i)).isEmpty = l.blank := rfl
          rw [hbl0]
          have hP5 : Hid (P k l l' ok (wc.drewN n5)) := hid (HH.out.keepP _ _ _ _ _ _ HP.out ((LnKept.refl _ _).drewN _))
          have hB5 : Hid (Blk (wc.drewN n5) w.heap.size 104 l'.C) := hid HBX.out
          have hO5 : Hid (Blk (wc.drewN n5) wa.heap.size 104 l.C) := hid HOX.out
          have hS5 : Hid (IsPS (wc.drewN n5) g r3) := hid HPS3.out
          have hK5 : Hid (Blk (wc.drewN n5) sb 121 cs3) := hid HSB3.out
          clear HP HBX HOX HPS3 HSB3 hbl0
          generalize wc.drewN n5 = wd at hP5 hB5 hO5 hS5 hK5 ⊢
          cases hbl : l.blank with
          | true =>
            have c5 := hS5.out.c5
            have f5 := hS5.out.free
            rw [HD3.out] at c5
            cases ok with
            | true =>
              go_wp2_with fail
              have hj' := HH.out.yes k l l' wd hP5.out hlt
              rw [show updB l l' true = false from by unfold updB; rw [hbl]; rfl] at hj'
              refine ⟨⟨k + 1, l', hj', hlt, HOK'.out, Blk.far hB5.out (p := ⟨g, 5, none⟩) hbg _, Nat.le_refl _⟩, ?_⟩
              rw [depthOf_ps (hS5.out.set5 ((k : Int) + 1)) (k := k + 1) (by simp), hdep.out]
              omega
            | false =>
              go_wp2_with fail
              go_meet
              have hj' := HH.out.no k l l' wd hP5.out hlt
              rw [show updB l l' false = false from by unfold updB; rw [hbl]; rfl] at hj'
              exact ⟨k, l', hj', HOK'.out, hB5.out, Nat.le_refl _⟩
          | false =>
            have c5 := hS5.out.c5
            have c4 := hS5.out.c4
            have c3 := hS5.out.c3
            have f5 := hS5.out.free
            rw [HD3.out] at c5
            rw [HT3.out] at c4
            rw [HN3.out] at c3
            dsimp only at c4
            have hix : (k + 1) * 4 + 3 < cs3.size := by omega
            have e7 := hK5.out.at_ ((k + 1) * 4 + 3) (Array.getElem?_eq_getElem hix)
            have ef := hK5.out.free
            have hld : IsLn wd w.heap.size l'.i 0 l'.s l'.nl := hB5.out
            have hod : IsLn wd wa.heap.size l.i 0 l.s l.nl := hO5.out
            have b0 := hld.c0
            have b1 := hld.c1
            have b2 := hld.c2
            have b3 := hld.c3
            have b4 := hld.c4
            have o0 := hod.c0
            have o1 := hod.c1
            have o2 := hod.c2
            have o3 := hod.c3
            have o4 := hod.c4
            cases ok with
            | true =>
              clear hld hod b0 b1 b2 b3 b4 o0 o1 o2 o3 o4
              have e1 : IntKind.i64.wrap ((k : Int) + 1) = (k : Int) + 1 := IntWalk.i64_in _ (by omega)
              have e2 : (0 : Int) ≤ (k : Int) + 1 := by omega
              have e3 : ((k : Int) + 1).toNat = k + 1 := by omega
              have e4 : (k : Int) + 1 < (n : Int) := by omega
              go_wp2_with fail
              go_region
              have hj' := HH.out.yes k l l' wd hP5.out hlt
              rw [show updB l l' true = true from by unfold updB; rw [hbl]; rfl] at hj'
              unfold updW at hj'
              rw [if_pos rfl] at hj'
              have hBx : Hid (Blk (wd.setCell ⟨sb, (k + 1) * 4 + 2 + 1, none⟩ (.int .i64 lineno)).drew w.heap.size 104 l'.C) := hid ((hB5.out.far (p := ⟨sb, (k + 1) * 4 + 2 + 1, none⟩) (Blk.ne_ hB5.out hK5.out (by decide)) _).drewN 1)
              have hSx : Hid (IsPS (wd.setCell ⟨sb, (k + 1) * 4 + 2 + 1, none⟩ (.int .i64 lineno)).drew g r3) := hid ((hS5.out.far (p := ⟨sb, (k + 1) * 4 + 2 + 1, none⟩) (Blk.ne_ hS5.out hK5.out (by decide)) _).drewN 1)
              have hJx : Hid (J (k + 1) l' ((wd.setCell ⟨sb, (k + 1) * 4 + 2 + 1, none⟩ (.int .i64 lineno)).drew.setCell ⟨g, 5, none⟩ (.int .i64 ((k : Int) + 1)))) := hid (HH.out.keepJ _ _ _ _ hj' ((LnKept.refl _ _).drewN 1))
              clear hj' c5 c4 c3 f5 e7 ef e1 e2 e3 e4
              generalize (World.setCell wd ⟨sb, (k + 1) * 4 + 2 + 1, none⟩ (.int .i64 lineno)).drew = we at hBx hSx hJx ⊢
              have c5 := hSx.out.c5
              have f5 := hSx.out.free
              rw [HD3.out] at c5
              go_wp2_with fail
              refine ⟨⟨k + 1, l', hJx.out, hlt, HOK'.out, Blk.far hBx.out (p := ⟨g, 5, none⟩) hbg _, Nat.le_refl _⟩, ?_⟩
              rw [depthOf_ps (hSx.out.set5 ((k : Int) + 1)) (k := k + 1) (by simp), hdep.out]
              omega
            | false =>
              clear hld hod
              have e1 : IntKind.i64.wrap ((k : Int) + 1) = (k : Int) + 1 := IntWalk.i64_in _ (by omega)
              have e2 : (0 : Int) ≤ (k : Int) + 1 := by omega
              have e3 : ((k : Int) + 1).toNat = k + 1 := by omega
              have e4 : (k : Int) + 1 < (n : Int) := by omega
              have hj' := hid (HH.out.no k l l' wd hP5.out hlt)
              go_wp2_with fail
              · go_meet
                refine ⟨k, l', ?_, HOK'.out, hB5.out, Nat.le_refl _⟩
                have h1 := hj'.out
                rw [show updB l l' false = false from by unfold updB; rw [hbl]; simp [*]] at h1
                exact h1
              all_goals
                have h1 := hj'.out
                rw [show updB l l' false = true from by unfold updB; rw [hbl]; simp [*]] at h1
                unfold updW at h1
                rw [if_pos rfl] at h1
                have HJ1 := hid h1
                clear h1 b0 b1 b2 b3 b4 o0 o1 o2 o3 o4
                go_region
                have hBx : Hid (Blk (wd.setCell ⟨sb, (k + 1) * 4 + 2 + 1, none⟩ (.int .i64 lineno)).drew w.heap.size 104 l'.C) := hid ((hB5.out.far (p := ⟨sb, (k + 1) * 4 + 2 + 1, none⟩) (Blk.ne_ hB5.out hK5.out (by decide)) _).drewN 1)
                have hEx : Hid (E k l' (wd.setCell ⟨sb, (k + 1) * 4 + 2 + 1, none⟩ (.int .i64 lineno)).drew) := hid (HH.out.keepE _ _ _ _ HJ1.out ((LnKept.refl _ _).drewN 1))
                go_wp2_with fail
                go_meet
                exact ⟨k, l', hEx.out, HOK'.out, hBx.out, Nat.le_refl _⟩
      · obtain rfl : n = k + 1 := by omega
        go_wp2_with fail
        go_quiet (fail)
        go_wp2_with fail
        go_meet
        exact ⟨k, l, HH.out.keepE _ _ _ _ (HH.out.last l wr HJ.out) ((LnKept.refl _ _).drewN _), HOK.out, HBOX.out.drewN _, Nat.le_refl _⟩
  case rest =>
    obtain ⟨d, l, he, hlok, hbox, _⟩ := hcut
    clear c5 f1 HJ0
    have HE := hid he
    have HBOX := hid hbox
    have HOK := hid hlok
    clear he hbox hlok
    go_wp2_with fail
    refine (isBlank_any w.heap.size l.s l.i _ HOK.out.1 (by have := HOK.out.2; omega) (HBOX.out.at_ 1 rfl) (HBOX.out.at_ 3 rfl)).mono ?_
    rintro e w1 ⟨rfl, n1, rfl⟩
    have hbl0 : (trimL (l.s.data.toList.drop l.i)).isEmpty = l.blank := rfl
    rw [hbl0]
    have hE1 : Hid (E d l (wc.drewN n1)) := hid (HH.out.keepE _ _ _ _ HE.out ((LnKept.refl _ _).drewN _))
    have hB1 : Hid (Blk (wc.drewN n1) w.heap.size 104 l.C) := hid HBOX.out
    clear HE HBOX hbl0
    generalize wc.drewN n1 = wd at hE1 hB1 ⊢
    cases hbl : l.blank with
    | true =>
      obtain ⟨⟨r3, cs3, hps3, hd3, _, _, _, _, _, hn3⟩, hdn⟩ := HH.out.atE d l wd hE1.out
      have c5 := hps3.c5
      rw [hd3] at c5
      clear hps3 hd3
      have htr := hid (HH.out.blank d l wd hE1.out hbl)
      go_wp2_with fail
      refine htr.out.mono ?_
      rintro e w2 ⟨rfl, hq⟩
      have HQ := hid hq
      clear hq
      go_wp2_with fail
      all_goals (try rw [Exit.noGoto_ret])
      go_returns
      exact ⟨rfl, HQ.out⟩
    | false =>
      obtain ⟨m, hm8, hdec, hacc, hpara⟩ := HH.out.start d l hbl HOK.out
      have HDEC := hid hdec
      have HACC := hid hacc
      have HPARA := hid hpara
      clear hdec hacc hpara
      go_wp2_with fail
      go_step3
      go_wp2_with fail
      refine (news_any _).mono ?_
      rintro e w2 ⟨nb, rfl, hnb, hblk, hb⟩
      have hkn := LnKept.below (base := w.heap.size) hb
      have hE2 := hid (HH.out.keepE _ _ _ _ hE1.out hkn)
      have hB2 := hid (Blk.mod hB1.out (Mod.below' (S := fun _ => False) hb) (fun h => h))
      have hN2 := hid hblk
      clear hblk hb hkn hE1 hB1
      go_wp2_with fail
      go_loopw [88] (fun t wr => StartR nb w.heap.size m d l E t wr) (fun t _ => 8 - (intOf t).toNat)
      case atStart => exact ⟨0, Nat.zero_le _, rfl, hN2.out, hB2.out, hE2.out⟩
      case round =>
        obtain ⟨i, hik, rfl, hN, hL, hE⟩ := hrel
        clear hN2 hB2 hE2
        have HN := hid hN
        have HL := hid hL
        have HE := hid hE
        unfold newsC at hN
        have q0 := hN.at_ 0 rfl
        have q1 := hN.at_ 1 rfl
        have q2 := hN.at_ 2 rfl
        have q3 := hN.at_ 3 rfl
        have q4 := hN.at_ 4 rfl
        have q5 := hN.at_ 5 rfl
        have q6 := hN.at_ 6 rfl
        have q7 := hN.at_ 7 rfl
        have hisl : IsLn wr w.heap.size l.i 0 l.s l.nl := hL
        have c0 := hisl.c0
        have c1 := hisl.c1
        have c2 := hisl.c2
        have c3 := hisl.c3
        have c4 := hisl.c4
        have fl := Blk.free hisl
        clear hN hL hE hisl
        rcases Nat.lt_or_ge i m with hlt | hge
        · have hi : i = 0 ∨ i = 1 ∨ i = 2 ∨ i = 3 ∨ i = 4 ∨ i = 5 ∨ i = 6 ∨ i = 7 := by omega
          rcases hi with rfl | rfl | rfl | rfl | rfl | rfl | rfl | rfl
          all_goals
            go_wp2_with fail
            refine (HDEC.out _ _ _ hlt rfl HE.out).mono ?_
            rintro e w3 ⟨rfl, hk3, hkl3⟩
            have HN3 := hid (HN.out.lnKept hk3 (by decide))
            have HL3 := hid (hkl3 _ _ (Nat.le_refl _) HL.out)
            have HE3 := hid (HH.out.keepE _ _ _ _ HE.out hk3)
            clear hk3 hkl3 q0 q1 q2 q3 q4 q5 q6 q7 c0 c1 c2 c3 c4 fl
            simp only [Ln.v, lnV]
            go_wp2_with fail
            refine ⟨?_, by simp [intOf]⟩
            iterate 25 (apply Exists.intro)
            refine ⟨?_, rfl⟩
            exact ⟨_ + 1, hlt, rfl, HN3.out.alloc _, HL3.out.alloc _, HH.out.keepE _ _ _ _ HE3.out ((LnKept.refl _ _).alloc _)⟩
        · obtain rfl : i = m := by omega
          by_cases hi8 : i = 8
          · subst hi8
            go_wp2_with fail
            refine (HPARA.out trivial _ HE.out).mono ?_
            rintro e w3 ⟨⟨v, rfl⟩, hq⟩
            have HQ := hid hq
            clear hq
            go_wp2_with fail
            simp only [Exit.noGoto]
            go_end0
            exact ⟨rfl, HQ.out⟩
          have hi : i = 0 ∨ i = 1 ∨ i = 2 ∨ i = 3 ∨ i = 4 ∨ i = 5 ∨ i = 6 ∨ i = 7 := by omega
          clear hi8
          rcases hi with rfl | rfl | rfl | rfl | rfl | rfl | rfl | rfl
          all_goals
            go_wp2_with fail
            refine (HACC.out _ _ rfl HE.out).mono ?_
            rintro e w3 ⟨rfl, hq, hsz, hkeep⟩
            have hl3 := hkeep _ _ (Nat.le_refl _) HL.out
            have fl3 := Blk.free hl3
            have d0 := Blk.at_ hl3 0 rfl
            have d1 := Blk.at_ hl3 1 rfl
            have d2 := Blk.at_ hl3 2 rfl
            have d3 := Blk.at_ hl3 3 rfl
            have d4 := Blk.at_ hl3 4 rfl
            have hlt3 := Blk.lt hl3
            have HQ := hid hq
            have HL3 := hid hl3
            clear hq hsz hkeep hl3 q0 q1 q2 q3 q4 q5 q6 q7 c0 c1 c2 c3 c4 fl
            simp only [Ln.v, lnV, Ln.nil]
            go_wp2_with fail
            have hln : Hid (Blk _ w.heap.size 104 _) := hid (Blk.alloc (line_zero HL3.out) (.cells #[.int .i64 0, .int .i64 0, .int .i64 0, .string ⟨#[]⟩, .int .u8 0] 104))
            have hmy : Hid (LnKept w.heap.size w3 _) := hid ((LnKept.fill (Nat.le_refl _) HL3.out Ln.nil).alloc (.cells #[.int .i64 0, .int .i64 0, .int .i64 0, .string ⟨#[]⟩, .int .u8 0] 104))
            unfold Ln.nil at hmy
            generalize World.alloc _ _ = wy at hln hmy ⊢
            clear d0 d1 d2 d3 d4 fl3
            refine (isBlank_any w.heap.size ⟨#[]⟩ 0 wy (Nat.zero_le _) (by simp [ByteArray.size]) (hln.out.at_ 1 rfl) (hln.out.at_ 3 rfl)).mono ?_
            rintro e w4 ⟨rfl, n4, rfl⟩
            have hE : (trimL (List.drop 0 (ByteArray.mk #[]).data.toList)).isEmpty = true := rfl
            rw [hE]
            go_wp2_with fail
            all_goals (try rw [Exit.noGoto_ret])
            go_returns
            exact ⟨rfl, HH.out.keepQ _ _ HQ.out (hmy.out.trans ((LnKept.refl _ _).drewN n4))⟩
end Go.Proofs.YtmcjhcfhglfmlaaGreatDoor
