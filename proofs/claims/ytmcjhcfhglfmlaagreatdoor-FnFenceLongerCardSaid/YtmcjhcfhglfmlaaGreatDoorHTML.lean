/- HTML of a text whose document's blocks are known: each prints what it prints. -/
import Derived.Test.YtmcjhcfhglfmlaaGreatDoorBuf
import Derived.Test.YtmcjhcfhglfmlaaGreatDoorOpt
import Derived.Test.YtmcjhcfhglfmlaaGreatDoorPs
namespace Go.Proofs.YtmcjhcfhglfmlaaGreatDoor
open Go.RowKit
def IsBuf (B b : Nat) (l : List UInt8) (w : World) : Prop := Lib.IsBuffer 72 5 B b (Lib.byteCells l) w
def Kept (b : Nat) (w w' : World) : Prop := Lib.OthersKept 5 (some b) w w'
/-- What a call that prints has done: the buffer holds more by 'out', nothing else that counts has turned. -/
def PrintP (B b : Nat) (bs out : List UInt8) (w : World) (e : Ending) (w' : World) : Prop :=
  e = .returned (.tuple #[]) ∧ IsBuf B b (bs ++ out) w' ∧ Below B w w' ∧ Kept b w w'
/-- The value y, printed into the buffer b that holds bs, gives out. -/
def Prints (w : World) (b : Nat) (bs : List UInt8) (y : Value) (out : List UInt8) : Prop :=
  ∃ u x f v, y = .iface u x ∧ (∀ W, (method 475 u x "PrintHTML").run Tryz.prog W = .ok (f, v) W) ∧ (∀ args W, (callFunc f args).run Tryz.prog W = .ok (.enter f args) W) ∧
    ∀ B W, Kept b w W → IsBuf B b bs W → B ≤ W.heap.size → bs.length + out.length ≤ 1000000 → Calls Tryz.prog f #[v, .pointer (some ⟨b, 0, none⟩)] W (PrintP B b bs out W)
theorem Blk.kept {w w' : World} {g b : Nat} {t : TypeId} {cs : Array Value} (h : Blk w g t cs) (hk : Kept b w w') (hb : g ≠ b) (ht : t ≠ 5) : Blk w' g t cs :=
  hk g _ h (by simpa using hb) (fun c fz e => by injection e with _ h2 _; exact ht h2)
theorem own_kept {w w' : World} {base : Nat} {e : TypeId} {size n b : Nat} {v : Value} {xs : List Value} (h : w.ownsRow base e size v n xs) (hk : Kept b w w') (hb : some b ≠ v.ownBlock) (ht : e ≠ 5) : w'.ownsRow base e size v n xs := by
  refine ⟨h.1, ?_⟩
  rcases h.2 with h0 | ⟨g', cap, cur, rfl, h2, hh, h1⟩
  · exact .inl h0
  · exact .inr ⟨g', cap, cur, rfl, h2, Blk.kept hh hk (fun e => hb (by simp [Value.ownBlock, e])) ht, h1⟩
theorem IsBuf.blk {B b : Nat} {l : List UInt8} {w : World} (h : IsBuf B b l w) : ∃ cs, Blk w b 72 cs := by
  obtain ⟨_, v, lr, hb, _⟩ := h
  exact ⟨_, hb⟩
theorem Prints.kept {w w' : World} {b : Nat} {bs : List UInt8} {y : Value} {out : List UInt8} (h : Prints w b bs y out) (hk : Kept b w w') : Prints w' b bs y out := by
  obtain ⟨u, x, f, v, hy, hm, he, hc⟩ := h
  exact ⟨u, x, f, v, hy, hm, he, fun B W hk' => hc B W (Lib.OthersKept.trans hk hk')⟩
/-- A string written into a buffer. -/
theorem write_str (B b : Nat) (bs : List UInt8) (s : ByteArray) (w : World) (h : IsBuf B b bs w) (hB : B ≤ w.heap.size) (hl : bs.length + s.size ≤ 2000000) :
    Calls Tryz.prog 248 #[.pointer (some ⟨b, 0, none⟩), .string s] w fun e w' => e = .returned (.tuple #[.int .i64 s.size, .nilIface]) ∧ IsBuf B b (bs ++ s.data.toList) w' ∧ Below B w w' ∧ Kept b w w' := by
  have hbl : (Lib.byteCells bs).length = bs.length := Lib.byteCells_length _
  refine Calls.mono (Any.Buffer_WriteString_kept Tryz.layWS B b (Lib.byteCells bs) s w h hB (Lib.byteCells_one _) (by rw [hbl]; omega)) ?_
  rintro e w' ⟨rfl, i, b1, k⟩
  exact ⟨rfl, by rw [← Lib.byteCells_append] at i; exact i, b1, k⟩
theorem buf_str (B b : Nat) (l : List UInt8) (w : World) (h : IsBuf B b l w) :
    Calls Tryz.prog 45 #[.pointer (some ⟨b, 0, none⟩)] w fun e w' => e = .returned (.string ⟨l.toArray⟩) ∧ ∃ n, w' = w.drewN n := Any.Buffer_String Tryz.layBS B b l w h
def DocR (B b n : Nat) (bs : List UInt8) (outs : List (List UInt8)) (w : World) (t : Value) (wr : World) : Prop :=
  ∃ i : Nat, i ≤ n ∧ t = .int .i64 i ∧ IsBuf B b (bs ++ (outs.take i).flatten) wr ∧ Below B w wr ∧ Kept b w wr
theorem take_flat (outs : List (List UInt8)) (i : Nat) (o : List UInt8) (h : outs[i]? = some o) : (outs.take (i + 1)).flatten = (outs.take i).flatten ++ o := by
  rw [List.take_add_one, h]
  simp
theorem take_len (outs : List (List UInt8)) (i : Nat) : (outs.take i).flatten.length ≤ outs.flatten.length := by
  conv => rhs; rw [← List.take_append_drop i outs, List.flatten_append, List.length_append]
  omega
set_option maxRecDepth 20000 in
set_option maxHeartbeats 1600000 in
theorem docHTML_any (B b d base : Nat) (bs : List UInt8) (sl el : Int) (inner : Sl) (m : Option Nat) (ys : List Value) (outs : List (List UInt8)) (w : World)
    (hblk : Blk w d 339 #[.int .i64 sl, .int .i64 el, inner.v, .map m]) (hrow : w.ownsRow base 68 1 inner.v inner.n ys) (hn : inner.n ≤ 1000000)
    (hbuf : IsBuf B b bs w) (hB : B ≤ w.heap.size) (hlo : outs.length = ys.length) (hp : ∀ (i : Nat) y o, ys[i]? = some y → outs[i]? = some o → Prints w b (bs ++ (outs.take i).flatten) y o) (hl : bs.length + outs.flatten.length ≤ 1000000) :
    Calls Tryz.prog 239 #[.pointer (some ⟨d, 0, none⟩), .pointer (some ⟨b, 0, none⟩)] w (PrintP B b bs outs.flatten w) := by
  have c2 : w.cell? ⟨d, 2, none⟩ = some (.slice inner.a inner.n inner.c) := by rw [hblk.cell]; rfl
  have hlen : ys.length = inner.n := by have := hrow.1; omega
  have hcells : ∀ i y, ys[i]? = some y → ∃ ib, inner.a = some ⟨ib, 0, none⟩ ∧ ∀ wr, Kept b w wr → wr.cell? ⟨ib, i, none⟩ = some y := by
    intro i y hy
    have hi : i < ys.length := (List.getElem?_eq_some_iff.1 hy).1
    rcases hrow.2 with ⟨_, h0⟩ | ⟨ib, cap, cur, h1, h2, hh, h3, h4, h5, h6⟩
    · omega
    · simp only [Sl.v, Value.slice.injEq] at h1
      refine ⟨ib, h1.1, fun wr hk => ?_⟩
      obtain ⟨cs, hcs⟩ := hbuf.blk
      have hne : ib ≠ b := Blk.ne_ (t := 68) hh hcs (by decide)
      have hbk : Blk wr ib 68 cur := Blk.kept hh hk hne (by decide)
      rw [hbk.cell i]
      have e1 : cur.toList[i]? = some y := by
        have : (cur.toList.take ys.length)[i]? = some y := by
          have e2 : cur.toList.take (ys.length) = ys := by rw [hlen]; simpa using h6
          rw [e2]; exact hy
        rw [List.getElem?_take] at this
        rw [if_pos hi] at this
        exact this
      simpa using e1
  have HC := hid hcells
  have HP := hid hp
  have HBUF := hid hbuf
  have HLO := hid hlo
  have HLEN := hid hlen
  clear hcells hp hbuf hlo hlen hrow hblk
  obtain ⟨ia, n, c⟩ := inner
  dsimp only at c2 hn HC HLEN
  by_cases hn0 : n = 0
  · subst hn0
    have ho : outs = [] := List.eq_nil_of_length_eq_zero (by rw [HLO.out, HLEN.out])
    subst ho
    go_enter Tryz.func239, Tryz.ntmps239
    go_wp2
    go_rounds 1
    go_end0
    exact ⟨rfl, by simpa using HBUF.out, Below.refl _ _, Lib.OthersKept.refl _ _ _⟩
  obtain ⟨ib, hia, _⟩ := HC.out 0 _ (List.getElem?_eq_getElem (by rw [HLEN.out]; omega))
  subst hia
  have HC2 : Hid (∀ i y, ys[i]? = some y → ∀ wr, Kept b w wr → wr.cell? ⟨ib, i, none⟩ = some y) := hid (fun i y hy => by
    obtain ⟨ib', h1, h2⟩ := HC.out i y hy
    cases h1
    exact h2)
  clear HC
  go_enter Tryz.func239, Tryz.ntmps239
  go_wp2_with fail
  go_loopw [11] (fun t wr => DocR B b n bs outs w t wr) (fun t _ => n - (intOf t).toNat)
  case atStart => exact ⟨0, Nat.zero_le _, rfl, by simpa using HBUF.out, Below.refl _ _, Lib.OthersKept.refl _ _ _⟩
  case round =>
    obtain ⟨i, hi, rfl, hbf, hbel, hk⟩ := hrel
    by_cases hlt : i < n
    · have hy : i < ys.length := by rw [HLEN.out]; exact hlt
      have ho : i < outs.length := by rw [HLO.out]; exact hy
      have hc := HC2.out i _ (List.getElem?_eq_getElem hy)
      obtain ⟨u, x, f, v, hyv, hm, he, hcall⟩ := HP.out i _ _ (List.getElem?_eq_getElem hy) (List.getElem?_eq_getElem ho)
      have hc' := hc wr hk
      rw [hyv] at hc'
      have htl := take_len outs i
      have htl1 := take_len outs (i + 1)
      have htf := take_flat outs i _ (List.getElem?_eq_getElem ho)
      rw [htf, List.length_append] at htl1
      have HCALL := hid (hcall B wr hk hbf (Nat.le_trans hB hbel.size) (by rw [List.length_append]; omega))
      have HTF := hid htf
      have HK := hid hk
      have HBL := hid hbel
      clear hk hbf hbel hc hyv hcall htf htl htl1
      go_wp2_with fail
      refine HCALL.out.mono ?_
      rintro e w1 ⟨rfl, hb1, hbl1, hk1⟩
      have HB1 := hid hb1
      have HBL1 := hid hbl1
      have HK1 := hid hk1
      clear hb1 hbl1 hk1
      go_wp2_with fail
      go_roundw
      case rel => exact ⟨i + 1, by omega, by go_num, by rw [HTF.out, ← List.append_assoc]; exact HB1.out, HBL.out.trans HBL1.out, Lib.OthersKept.trans HK.out HK1.out⟩
      case measure => simp [intOf]; omega
    · obtain rfl : i = n := by omega
      have ht : outs.take i = outs := List.take_of_length_le (by rw [HLO.out, HLEN.out]; exact Nat.le_refl _)
      rw [ht] at hbf
      have HBF := hid hbf
      have HBL := hid hbel
      have HK := hid hk
      clear hbf hbel hk ht
      go_wp2_with fail
      go_end0
      exact ⟨rfl, HBF.out, HBL.out, HK.out⟩
/-- The document d, printed, gives out. -/
def DocPrints (w : World) (d : Nat) (out : List UInt8) : Prop :=
  ∃ (sl el : Int) (inner : Sl) (m : Option Nat) (base : Nat) (ys : List Value) (outs : List (List UInt8)), Blk w d 339 #[.int .i64 sl, .int .i64 el, inner.v, .map m] ∧ w.ownsRow base 68 1 inner.v inner.n ys ∧ inner.n ≤ 1000000 ∧
    outs.flatten = out ∧ out.length ≤ 1000000 ∧ outs.length = ys.length ∧ ∀ (b i : Nat) y o, w.heap.size ≤ b → ys[i]? = some y → outs[i]? = some o → Prints w b (outs.take i).flatten y o
set_option maxRecDepth 20000 in
set_option maxHeartbeats 800000 in
theorem toHTML_doc (d : Nat) (out : List UInt8) (w : World) (h : DocPrints w d out) :
    Calls Tryz.prog 29 #[.iface 45 (.pointer (some ⟨d, 0, none⟩))] w fun e w' => e = .returned (.string ⟨out.toArray⟩) ∧ Below w.heap.size w w' := by
  obtain ⟨sl, el, inner, m, base, ys, outs, hblk, hrow, hn, rfl, hl, hlo, hp⟩ := h
  have hk0 : Kept w.heap.size w (w.alloc (.cells #[.slice none 0 0, .int .i64 0, .int .i8 0] 72)) := Lib.OthersKept.alloc (Lib.OthersKept.refl _ _ _) _
  have hdoc := hid (docHTML_any w.heap.size w.heap.size d base [] sl el inner m ys outs (w.alloc (.cells #[.slice none 0 0, .int .i64 0, .int .i8 0] 72)) (Blk.alloc hblk _) (World.ownsRow.alloc hrow _) hn (Lib.fresh_isBuffer _ _ _) (by simp) hlo (fun i y o hy ho => by rw [List.nil_append]; exact (hp _ i y o (Nat.le_refl _) hy ho).kept hk0) (by simpa using hl))
  clear hp hblk hrow hk0
  go_enter Tryz.func29, Tryz.ntmps29
  go_wp2_with (go_at_call 239; refine hdoc.out.mono ?_; rintro e w1 ⟨rfl, hb1, hbl1, hk1⟩; refine Hid.out ?_)
  refine Lib.hid ?_
  have HB1 := hid hb1
  have HBL1 := hid hbl1
  clear hb1 hbl1 hk1
  go_wp2_with (go_at_call 45; refine (buf_str w.heap.size w.heap.size _ _ HB1.out).mono ?_; rintro e w2 ⟨rfl, n, rfl⟩)
  go_ret
  exact ⟨rfl, below_drewN (((Below.refl _ _).alloc (Nat.le_refl _) _).trans HBL1.out) n⟩
def ParsedDoc (w : World) (out : List UInt8) (e : Ending) (w' : World) : Prop :=
  ∃ d, e = .returned (.pointer (some ⟨d, 0, none⟩)) ∧ DocPrints w' d out ∧ Below w.heap.size w w'
set_option maxRecDepth 20000 in
theorem HTML_gen (o : Opt) (s : ByteArray) (w : World) (out : List UInt8)
    (hP : ∀ g w1, Blk w1 g 76 o.parser → Calls Tryz.prog 31 #[.pointer (some ⟨g, 0, none⟩), .string s] w1 (ParsedDoc w1 out)) :
    Calls Tryz.prog 12 #[o.v, .string s] w fun e w' => e = .returned (.string ⟨out.toArray⟩) ∧ Below w.heap.size w w' := by
  have HP := hid hP
  clear hP
  obtain ⟨o0, o1, o2, o3, o4, o5, o6, o7, o8, o9⟩ := o
  have hv : (Opt.mk o0 o1 o2 o3 o4 o5 o6 o7 o8 o9).v = .agg #[.bool o0, .bool o1, .bool o2, .bool o3, .bool o4, .bool o5, .bool o6, .bool o7, .bool o8, .bool o9] := rfl
  rw [hv]
  go_enter Tryz.func12, Tryz.ntmps12
  go_wp2_with fail
  refine (parser_any ⟨o0, o1, o2, o3, o4, o5, o6, o7, o8, o9⟩ _).mono ?_
  rintro e w1 ⟨g, rfl, hg, hblk, hb⟩
  have HB := hid hb
  have HBL := hid hblk
  clear hblk hb
  go_wp2_with fail
  refine (HP.out g _ HBL.out).mono ?_
  rintro e w2 ⟨d, rfl, hd, hb2⟩
  have HB2 := hid hb2
  have HD := hid hd
  clear hb2 hd
  go_wp2_with fail
  refine (toHTML_doc d out _ HD.out).mono ?_
  rintro e w3 ⟨rfl, hb3⟩
  have HB3 := hid hb3
  clear hb3
  go_wp2_with fail
  go_ret
  exact ⟨rfl, ((((Below.refl _ _).alloc (Nat.le_refl _) _).trans (HB.out.mono (by simp))).trans (HB2.out.mono (Nat.le_trans (by simp) HB.out.size))).trans (HB3.out.mono (Nat.le_trans (Nat.le_trans (by simp) HB.out.size) HB2.out.size))⟩
theorem buf_len (B b : Nat) (l : List UInt8) (w : World) (h : IsBuf B b l w) :
    Calls Tryz.prog 251 #[.pointer (some ⟨b, 0, none⟩)] w fun e w' => e = .returned (.int .i64 (l.length : Int)) ∧ ∃ n, w' = w.drewN n := by
  refine Calls.mono (Any.Buffer_Len Tryz.layLen B b (Lib.byteCells l) w h) ?_
  rintro e w' ⟨rfl, h⟩
  exact ⟨by rw [Lib.byteCells_length], h⟩
end Go.Proofs.YtmcjhcfhglfmlaaGreatDoor
