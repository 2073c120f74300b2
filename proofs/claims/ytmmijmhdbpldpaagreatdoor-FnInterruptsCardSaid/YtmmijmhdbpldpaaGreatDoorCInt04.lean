/- Texts of this proof, joined: HTML of a text whose document's blocks are known: each prints what it prints, Escaping for HTML: the pairs, put in; the law's own function, Code blocks, printed. -/
import Derived.Test.YtmmijmhdbpldpaaGreatDoorCInt03
import Derived.Test.YtmmijmhdbpldpaaGreatDoorCInt01
import Derived.Test.YtmmijmhdbpldpaaGreatDoorCInt02
import Derived.Deep.RegionLaw
import Derived.Deep.AppendLies
/- HTML of a text whose document's blocks are known: each prints what it prints. -/



namespace Go.Proofs.YtmmijmhdbpldpaaGreatDoor
open Go.RowKit
def IsBuf (B b : Nat) (l : List UInt8) (w : World) : Prop := Lib.IsBuffer 73 5 B b (Lib.byteCells l) w
def Kept (b : Nat) (w w' : World) : Prop := Lib.OthersKept 5 (some b) w w'
/-- What a call that prints has done: the buffer holds more by 'out', nothing else that counts has turned. -/
def PrintP (B b : Nat) (bs out : List UInt8) (w : World) (e : Ending) (w' : World) : Prop :=
  e = .returned (.tuple #[]) ∧ IsBuf B b (bs ++ out) w' ∧ Below B w w' ∧ Kept b w w'
/-- The value y, printed into the buffer b that holds bs, gives out. -/
def Prints (w : World) (b : Nat) (bs : List UInt8) (y : Value) (out : List UInt8) : Prop :=
  ∃ u x f v, y = .iface u x ∧ (∀ W, (method 475 u x "PrintHTML").run Tryz.prog W = .ok (f, v) W) ∧ (∀ args W, (callFunc f args).run Tryz.prog W = .ok (.enter f args) W) ∧
    ∀ B W, Kept b w W → IsBuf B b bs W → B ≤ W.heap.size → bs.length + out.length ≤ 1000000 → Calls Tryz.prog f #[v, .pointer (some ⟨b, 0, none⟩)] W (PrintP B b bs out W)
theorem Blk.kept {w w' : World} {g b : Nat} {t : TypeId} {cs : Array Value} (h : Blk w g t cs) (hk : Kept b w w') (hb : g ≠ b) (ht : t ≠ 5) : Blk w' g t cs :=
  hk g _ h (by simpa using hb) (fun c fz e => by injection e with _ h2 _; exact ht h2)
theorem own_kept {w w' : World} {base : Nat} {e : TypeId} {size n b : Nat} {v : Value} {xs : List Value} (h : w.ownsRow base e size v n xs) (hk : Kept b w w') (hb : some b ≠ v.ownBlock) (ht : e ≠ 5) : w'.ownsRow base e size v n xs := by
  refine ⟨h.1, ?_⟩
  rcases h.2 with h0 | ⟨g', cap, cur, rfl, h2, hh, h1⟩
  · exact .inl h0
  · exact .inr ⟨g', cap, cur, rfl, h2, Blk.kept hh hk (fun e => hb (by simp [Value.ownBlock, e])) ht, h1⟩
theorem IsBuf.blk {B b : Nat} {l : List UInt8} {w : World} (h : IsBuf B b l w) : ∃ cs, Blk w b 73 cs := by
  obtain ⟨_, v, lr, hb, _⟩ := h
  exact ⟨_, hb⟩
theorem Prints.kept {w w' : World} {b : Nat} {bs : List UInt8} {y : Value} {out : List UInt8} (h : Prints w b bs y out) (hk : Kept b w w') : Prints w' b bs y out := by
  obtain ⟨u, x, f, v, hy, hm, he, hc⟩ := h
  exact ⟨u, x, f, v, hy, hm, he, fun B W hk' => hc B W (Lib.OthersKept.trans hk hk')⟩
/-- A string written into a buffer. -/
theorem write_str (B b : Nat) (bs : List UInt8) (s : ByteArray) (w : World) (h : IsBuf B b bs w) (hB : B ≤ w.heap.size) (hl : bs.length + s.size ≤ 2000000) :
    Calls Tryz.prog 245 #[.pointer (some ⟨b, 0, none⟩), .string s] w fun e w' => e = .returned (.tuple #[.int .i64 s.size, .nilIface]) ∧ IsBuf B b (bs ++ s.data.toList) w' ∧ Below B w w' ∧ Kept b w w' := by
  have hbl : (Lib.byteCells bs).length = bs.length := Lib.byteCells_length _
  refine Calls.mono (Any.Buffer_WriteString_kept Tryz.layWS B b (Lib.byteCells bs) s w h hB (Lib.byteCells_one _) (by rw [hbl]; omega)) ?_
  rintro e w' ⟨rfl, i, b1, k⟩
  exact ⟨rfl, by rw [← Lib.byteCells_append] at i; exact i, b1, k⟩
theorem buf_str (B b : Nat) (l : List UInt8) (w : World) (h : IsBuf B b l w) :
    Calls Tryz.prog 42 #[.pointer (some ⟨b, 0, none⟩)] w fun e w' => e = .returned (.string ⟨l.toArray⟩) ∧ ∃ n, w' = w.drewN n := Any.Buffer_String Tryz.layBS B b l w h
def DocR (B b n : Nat) (bs : List UInt8) (outs : List (List UInt8)) (w : World) (t : Value) (wr : World) : Prop :=
  ∃ i : Nat, i ≤ n ∧ t = .int .i64 i ∧ IsBuf B b (bs ++ (outs.take i).flatten) wr ∧ Below B w wr ∧ Kept b w wr
theorem take_flat (outs : List (List UInt8)) (i : Nat) (o : List UInt8) (h : outs[i]? = some o) : (outs.take (i + 1)).flatten = (outs.take i).flatten ++ o := by
  rw [List.take_add_one, h]
  simp
theorem take_len (outs : List (List UInt8)) (i : Nat) : (outs.take i).flatten.length ≤ outs.flatten.length := by
  conv => rhs; rw [← List.take_append_drop i outs, List.flatten_append, List.length_append]
  omega
set_option maxRecDepth 20000 in
set_option maxHeartbeats 1600000 in
theorem docHTML_any (B b d base : Nat) (bs : List UInt8) (sl el : Int) (inner : Sl) (m : Option Nat) (ys : List Value) (outs : List (List UInt8)) (w : World)
    (hblk : Blk w d 339 #[.int .i64 sl, .int .i64 el, inner.v, .map m]) (hrow : w.ownsRow base 69 1 inner.v inner.n ys) (hn : inner.n ≤ 1000000)
    (hbuf : IsBuf B b bs w) (hB : B ≤ w.heap.size) (hlo : outs.length = ys.length) (hp : ∀ (i : Nat) y o, ys[i]? = some y → outs[i]? = some o → Prints w b (bs ++ (outs.take i).flatten) y o) (hl : bs.length + outs.flatten.length ≤ 1000000) :
    Calls Tryz.prog 236 #[.pointer (some ⟨d, 0, none⟩), .pointer (some ⟨b, 0, none⟩)] w (PrintP B b bs outs.flatten w) := by
  have c2 : w.cell? ⟨d, 2, none⟩ = some (.slice inner.a inner.n inner.c) := by rw [hblk.cell]; rfl
  have hlen : ys.length = inner.n := by have := hrow.1; omega
  have hcells : ∀ i y, ys[i]? = some y → ∃ ib, inner.a = some ⟨ib, 0, none⟩ ∧ ∀ wr, Kept b w wr → wr.cell? ⟨ib, i, none⟩ = some y := by
    intro i y hy
    have hi : i < ys.length := (List.getElem?_eq_some_iff.1 hy).1
    rcases hrow.2 with ⟨_, h0⟩ | ⟨ib, cap, cur, h1, h2, hh, h3, h4, h5, h6⟩
    · omega
    · simp only [Sl.v, Value.slice.injEq] at h1
      refine ⟨ib, h1.1, fun wr hk => ?_⟩
      obtain ⟨cs, hcs⟩ := hbuf.blk
      have hne : ib ≠ b := Blk.ne_ (t := 69) hh hcs (by decide)
      have hbk : Blk wr ib 69 cur := Blk.kept hh hk hne (by decide)
      rw [hbk.cell i]
      have e1 : cur.toList[i]? = some y := by
        have : (cur.toList.take ys.length)[i]? = some y := by
          have e2 : cur.toList.take (ys.length) = ys := by rw [hlen]; simpa using h6
          rw [e2]; exact hy
        rw [List.getElem?_take] at this
        rw [if_pos hi] at this
        exact this
      simpa using e1
  have HC := hid hcells
  have HP := hid hp
  have HBUF := hid hbuf
  have HLO := hid hlo
  have HLEN := hid hlen
  clear hcells hp hbuf hlo hlen hrow hblk
  obtain ⟨ia, n, c⟩ := inner
  dsimp only at c2 hn HC HLEN
  by_cases hn0 : n = 0
  · subst hn0
    have ho : outs = [] := List.eq_nil_of_length_eq_zero (by rw [HLO.out, HLEN.out])
    subst ho
    go_enter Tryz.func236, Tryz.ntmps236
    go_wp2
    go_rounds 1
    go_end0
    exact ⟨rfl, by simpa using HBUF.out, Below.refl _ _, Lib.OthersKept.refl _ _ _⟩
  obtain ⟨ib, hia, _⟩ := HC.out 0 _ (List.getElem?_eq_getElem (by rw [HLEN.out]; omega))
  subst hia
  have HC2 : Hid (∀ i y, ys[i]? = some y → ∀ wr, Kept b w wr → wr.cell? ⟨ib, i, none⟩ = some y) := hid (fun i y hy => by
    obtain ⟨ib', h1, h2⟩ := HC.out i y hy
    cases h1
    exact h2)
  clear HC
  go_enter Tryz.func236, Tryz.ntmps236
  go_wp2_with fail
  go_loopw [11] (fun t wr => DocR B b n bs outs w t wr) (fun t _ => n - (intOf t).toNat)
  case atStart => exact ⟨0, Nat.zero_le _, rfl, by simpa using HBUF.out, Below.refl _ _, Lib.OthersKept.refl _ _ _⟩
  case round =>
    obtain ⟨i, hi, rfl, hbf, hbel, hk⟩ := hrel
    by_cases hlt : i < n
    · have hy : i < ys.length := by rw [HLEN.out]; exact hlt
      have ho : i < outs.length := by rw [HLO.out]; exact hy
      have hc := HC2.out i _ (List.getElem?_eq_getElem hy)
      obtain ⟨u, x, f, v, hyv, hm, he, hcall⟩ := HP.out i _ _ (List.getElem?_eq_getElem hy) (List.getElem?_eq_getElem ho)
      have hc' := hc wr hk
      rw [hyv] at hc'
      have htl := take_len outs i
      have htl1 := take_len outs (i + 1)
      have htf := take_flat outs i _ (List.getElem?_eq_getElem ho)
      rw [htf, List.length_append] at htl1
      have HCALL := hid (hcall B wr hk hbf (Nat.le_trans hB hbel.size) (by rw [List.length_append]; omega))
      have HTF := hid htf
      have HK := hid hk
      have HBL := hid hbel
      clear hk hbf hbel hc hyv hcall htf htl htl1
      go_wp2_with fail
      refine HCALL.out.mono ?_
      rintro e w1 ⟨rfl, hb1, hbl1, hk1⟩
      have HB1 := hid hb1
      have HBL1 := hid hbl1
      have HK1 := hid hk1
      clear hb1 hbl1 hk1
      go_wp2_with fail
      go_roundw
      case rel => exact ⟨i + 1, by omega, by go_num, by rw [HTF.out, ← List.append_assoc]; exact HB1.out, HBL.out.trans HBL1.out, Lib.OthersKept.trans HK.out HK1.out⟩
      case measure => simp [intOf]; omega
    · obtain rfl : i = n := by omega
      have ht : outs.take i = outs := List.take_of_length_le (by rw [HLO.out, HLEN.out]; exact Nat.le_refl _)
      rw [ht] at hbf
      have HBF := hid hbf
      have HBL := hid hbel
      have HK := hid hk
      clear hbf hbel hk ht
      go_wp2_with fail
      go_end0
      exact ⟨rfl, HBF.out, HBL.out, HK.out⟩
/-- The document d, printed, gives out. -/
def DocPrints (w : World) (d : Nat) (out : List UInt8) : Prop :=
  ∃ (sl el : Int) (inner : Sl) (m : Option Nat) (base : Nat) (ys : List Value) (outs : List (List UInt8)), Blk w d 339 #[.int .i64 sl, .int .i64 el, inner.v, .map m] ∧ w.ownsRow base 69 1 inner.v inner.n ys ∧ inner.n ≤ 1000000 ∧
    outs.flatten = out ∧ out.length ≤ 1000000 ∧ outs.length = ys.length ∧ ∀ (b i : Nat) y o, w.heap.size ≤ b → ys[i]? = some y → outs[i]? = some o → Prints w b (outs.take i).flatten y o
set_option maxRecDepth 20000 in
set_option maxHeartbeats 800000 in
theorem toHTML_doc (d : Nat) (out : List UInt8) (w : World) (h : DocPrints w d out) :
    Calls Tryz.prog 27 #[.iface 47 (.pointer (some ⟨d, 0, none⟩))] w fun e w' => e = .returned (.string ⟨out.toArray⟩) ∧ Below w.heap.size w w' := by
  obtain ⟨sl, el, inner, m, base, ys, outs, hblk, hrow, hn, rfl, hl, hlo, hp⟩ := h
  have hk0 : Kept w.heap.size w (w.alloc (.cells #[.slice none 0 0, .int .i64 0, .int .i8 0] 73)) := Lib.OthersKept.alloc (Lib.OthersKept.refl _ _ _) _
  have hdoc := hid (docHTML_any w.heap.size w.heap.size d base [] sl el inner m ys outs (w.alloc (.cells #[.slice none 0 0, .int .i64 0, .int .i8 0] 73)) (Blk.alloc hblk _) (World.ownsRow.alloc hrow _) hn (Lib.fresh_isBuffer _ _ _) (by simp) hlo (fun i y o hy ho => by rw [List.nil_append]; exact (hp _ i y o (Nat.le_refl _) hy ho).kept hk0) (by simpa using hl))
  clear hp hblk hrow hk0
  go_enter Tryz.func27, Tryz.ntmps27
  go_wp2_with (go_at_call 236; refine hdoc.out.mono ?_; rintro e w1 ⟨rfl, hb1, hbl1, hk1⟩; refine Hid.out ?_)
  refine Lib.hid ?_
  have HB1 := hid hb1
  have HBL1 := hid hbl1
  clear hb1 hbl1 hk1
  go_wp2_with (go_at_call 42; refine (buf_str w.heap.size w.heap.size _ _ HB1.out).mono ?_; rintro e w2 ⟨rfl, n, rfl⟩)
  go_ret
  exact ⟨rfl, below_drewN (((Below.refl _ _).alloc (Nat.le_refl _) _).trans HBL1.out) n⟩
def ParsedDoc (w : World) (out : List UInt8) (e : Ending) (w' : World) : Prop :=
  ∃ d, e = .returned (.pointer (some ⟨d, 0, none⟩)) ∧ DocPrints w' d out ∧ Below w.heap.size w w'
set_option maxRecDepth 20000 in
theorem HTML_gen (o : Opt) (s : ByteArray) (w : World) (out : List UInt8)
    (hP : ∀ g w1, Blk w1 g 77 o.parser → Calls Tryz.prog 29 #[.pointer (some ⟨g, 0, none⟩), .string s] w1 (ParsedDoc w1 out)) :
    Calls Tryz.prog 11 #[o.v, .string s] w fun e w' => e = .returned (.string ⟨out.toArray⟩) ∧ Below w.heap.size w w' := by
  have HP := hid hP
  clear hP
  obtain ⟨o0, o1, o2, o3, o4, o5, o6, o7, o8, o9⟩ := o
  have hv : (Opt.mk o0 o1 o2 o3 o4 o5 o6 o7 o8 o9).v = .agg #[.bool o0, .bool o1, .bool o2, .bool o3, .bool o4, .bool o5, .bool o6, .bool o7, .bool o8, .bool o9] := rfl
  rw [hv]
  go_enter Tryz.func11, Tryz.ntmps11
  go_wp2_with fail
  refine (parser_any ⟨o0, o1, o2, o3, o4, o5, o6, o7, o8, o9⟩ _).mono ?_
  rintro e w1 ⟨g, rfl, hg, hblk, hb⟩
  have HB := hid hb
  have HBL := hid hblk
  clear hblk hb
  go_wp2_with fail
  refine (HP.out g _ HBL.out).mono ?_
  rintro e w2 ⟨d, rfl, hd, hb2⟩
  have HB2 := hid hb2
  have HD := hid hd
  clear hb2 hd
  go_wp2_with fail
  refine (toHTML_doc d out _ HD.out).mono ?_
  rintro e w3 ⟨rfl, hb3⟩
  have HB3 := hid hb3
  clear hb3
  go_wp2_with fail
  go_ret
  exact ⟨rfl, ((((Below.refl _ _).alloc (Nat.le_refl _) _).trans (HB.out.mono (by simp))).trans (HB2.out.mono (Nat.le_trans (by simp) HB.out.size))).trans (HB3.out.mono (Nat.le_trans (Nat.le_trans (by simp) HB.out.size) HB2.out.size))⟩
theorem buf_len (B b : Nat) (l : List UInt8) (w : World) (h : IsBuf B b l w) :
    Calls Tryz.prog 248 #[.pointer (some ⟨b, 0, none⟩)] w fun e w' => e = .returned (.int .i64 (l.length : Int)) ∧ ∃ n, w' = w.drewN n := by
  refine Calls.mono (Any.Buffer_Len Tryz.layLen B b (Lib.byteCells l) w h) ?_
  rintro e w' ⟨rfl, h⟩
  exact ⟨by rw [Lib.byteCells_length], h⟩
end Go.Proofs.YtmmijmhdbpldpaaGreatDoor
/- Escaping for HTML: the pairs, put in; the law's own function. -/


namespace Go.Proofs.YtmmijmhdbpldpaaGreatDoor
open Go.RowKit
/-- What stands for a byte in HTML. -/
def esc1 (c : UInt8) : List UInt8 := if c = 34 then [38, 113, 117, 111, 116, 59] else if c = 38 then [38, 97, 109, 112, 59] else if c = 60 then [38, 108, 116, 59] else if c = 62 then [38, 103, 116, 59] else [c]
def esc (l : List UInt8) : List UInt8 := l.flatMap esc1
theorem esc_snoc (l : List UInt8) (c : UInt8) : esc (l ++ [c]) = esc l ++ esc1 c := by simp [esc]
theorem esc1_len (c : UInt8) : (esc1 c).length ≤ 6 := by
  unfold esc1
  repeat' split
  all_goals simp
theorem esc_len (l : List UInt8) : (esc l).length ≤ 6 * l.length := by
  induction l with
  | nil => simp [esc]
  | cons a l ih =>
    have := esc1_len a
    simp only [esc, List.flatMap_cons, List.length_append, List.length_cons] at ih ⊢
    omega
theorem esc_take (l : List UInt8) (i : Nat) (h : i < l.length) : esc (l.take (i + 1)) = esc (l.take i) ++ esc1 (l[i]'h) := by
  rw [List.take_add_one, List.getElem?_eq_getElem h]
  exact esc_snoc _ _
theorem extract_one (s : ByteArray) (i : Nat) (h : i < s.size) : s.extract i (i + 1) = ⟨#[s.data.toList[i]'(by rw [← Lib.size_eq]; exact h)]⟩ := by
  have hi : i < s.data.toList.length := by rw [← Lib.size_eq]; exact h
  rw [Lib.extract_eq, List.drop_eq_getElem_cons hi, show i + 1 - i = 1 from by omega]
  rfl
theorem esc1_other {c : UInt8} {z : Int} (hz : z = (c.toNat : Int)) (h34 : ¬ z = 34) (h38 : ¬ z = 38) (h60 : ¬ z = 60) (h62 : ¬ z = 62) : esc1 c = [c] := by
  unfold esc1
  rw [if_neg (fun e => h34 (by rw [hz, e]; rfl)), if_neg (fun e => h38 (by rw [hz, e]; rfl)), if_neg (fun e => h60 (by rw [hz, e]; rfl)), if_neg (fun e => h62 (by rw [hz, e]; rfl))]
def pairsC : Array Value := #[.string ⟨#[34]⟩, .string ⟨#[38, 113, 117, 111, 116, 59]⟩, .string ⟨#[38]⟩, .string ⟨#[38, 97, 109, 112, 59]⟩, .string ⟨#[60]⟩, .string ⟨#[38, 108, 116, 59]⟩, .string ⟨#[62]⟩, .string ⟨#[38, 103, 116, 59]⟩]
set_option maxRecDepth 20000 in
theorem htmlEscaper_any (w : World) : Calls Tryz.prog 257 #[] w fun e w' => ∃ n, e = .returned (.slice (some ⟨n, 0, none⟩) 8 8) ∧ w.heap.size ≤ n ∧ Blk w' n 9 pairsC ∧ Below w.heap.size w w' := by
  go_enter Tryz.func257, Tryz.ntmps257
  go_wp2
  go_ret
  exact ⟨_, rfl, Nat.le_refl _, Blk.new _ _ _, (Below.refl _ _).alloc (Nat.le_refl _) _⟩
/-- One byte written into a buffer. -/
theorem write_byte (B b : Nat) (bs : List UInt8) (c : UInt8) (w : World) (h : IsBuf B b bs w) (hB : B ≤ w.heap.size) (_ : bs.length + 1 ≤ 20000000) :
    Calls Tryz.prog 259 #[.pointer (some ⟨b, 0, none⟩), .int .u8 (c.toNat : Int)] w fun e w' => e = .returned .nilIface ∧ IsBuf B b (bs ++ [c]) w' ∧ Below B w w' ∧ Kept b w w' := by
  have hbl : (Lib.byteCells bs).length = bs.length := Lib.byteCells_length _
  refine Calls.mono (Any.Buffer_WriteByte_kept Tryz.layWB B b (Lib.byteCells bs) (c.toNat : Int) w h hB (Lib.byteCells_one _) (by rw [hbl]; omega)) ?_
  rintro e w' ⟨rfl, i, b1, k⟩
  refine ⟨rfl, ?_, b1, k⟩
  unfold IsBuf
  rw [Lib.byteCells_append]
  exact i
def PairsR (B b : Nat) (bs : List UInt8) (s : ByteArray) (w : World) (t6 : Value) (wr : World) : Prop :=
  ∃ i : Nat, i ≤ s.size ∧ t6 = .int .i64 i ∧ IsBuf B b (bs ++ esc (s.data.toList.take i)) wr ∧ Below B w wr ∧ Kept b w wr
set_option maxRecDepth 20000 in
set_option maxHeartbeats 4000000 in
theorem pairs_write (B b n : Nat) (bs : List UInt8) (s : ByteArray) (w : World) (hn : Blk w n 9 pairsC) (hbuf : IsBuf B b bs w) (hB : B ≤ w.heap.size) (hs : s.size ≤ 100000) (hl : bs.length ≤ 1000000) :
    Calls Tryz.prog 258 #[.slice (some ⟨n, 0, none⟩) 8 8, .pointer (some ⟨b, 0, none⟩), .string s] w (PrintP B b bs (esc s.data.toList) w) := by
  have hb := get_bt s
  have e34 : ∀ h, ((((ByteArray.mk #[34])[0]'h).toNat : Nat) : Int) = 34 := fun _ => rfl
  have e38 : ∀ h, ((((ByteArray.mk #[38])[0]'h).toNat : Nat) : Int) = 38 := fun _ => rfl
  have e60 : ∀ h, ((((ByteArray.mk #[60])[0]'h).toNat : Nat) : Int) = 60 := fun _ => rfl
  have e62 : ∀ h, ((((ByteArray.mk #[62])[0]'h).toNat : Nat) : Int) = 62 := fun _ => rfl
  have HL := hid (Lib.size_eq s)
  have HBUF := hid hbuf
  have hnb : n ≠ b := by
    obtain ⟨cs, hcs⟩ := hbuf.blk
    exact Blk.ne_ hn hcs (by decide)
  have HN := hid hn
  clear hbuf hn
  go_enter Tryz.func258, Tryz.ntmps258
  go_wp2_with fail
  go_step3
  go_wp2_with fail
  go_step3
  go_wp2_with fail
  go_loopw [6] (fun t6 wr => PairsR B b bs s w t6 wr) (fun t6 _ => s.size - (intOf t6).toNat)
  case atStart => exact ⟨0, Nat.zero_le _, rfl, by simpa [esc] using HBUF.out, Below.refl _ _, Lib.OthersKept.refl _ _ _⟩
  case round =>
    obtain ⟨i, hi, rfl, hbf, hbel, hk⟩ := hrel
    by_cases hlt : i < s.size
    · have hll : i < s.data.toList.length := by rw [← HL.out]; exact hlt
      have het := esc_take _ i hll
      have hbt : bt s i = ((s.data.toList[i]'hll).toNat : Int) := by unfold bt; rw [dif_pos hlt]; rfl
      have hel := esc_len (s.data.toList.take i)
      have htl : (s.data.toList.take i).length = i := by rw [List.length_take]; omega
      rw [htl] at hel
      have HET := hid het
      clear het htl
      generalize esc (s.data.toList.take i) = ls at HET hel hbf ⊢
      generalize s.data.toList[i]'hll = c at HET hbt
      have hc := fun (n : UInt8) (h : bt s i = (n.toNat : Int)) => (UInt8.toNat_inj.1 (by omega) : c = n)
      have HC := hid hc
      have hcells := Blk.kept HN.out hk hnb (by decide)
      unfold pairsC at hcells
      have q0 := hcells.at_ 0 rfl
      have q1 := hcells.at_ 1 rfl
      have q2 := hcells.at_ 2 rfl
      have q3 := hcells.at_ 3 rfl
      have q4 := hcells.at_ 4 rfl
      have q5 := hcells.at_ 5 rfl
      have q6 := hcells.at_ 6 rfl
      have q7 := hcells.at_ 7 rfl
      have hBw : B ≤ wr.heap.size := Nat.le_trans hB hbel.size
      have HBF := hid hbf
      have HBL := hid hbel
      have HK := hid hk
      have HBT := hid hbt
      clear hc hcells hbf hbel hk hbt
      by_cases h34 : bt s i = 34
      · have he := hid (show esc1 c = [38, 113, 117, 111, 116, 59] by rw [HC.out 34 h34]; rfl)
        go_wp2_with fail
        refine wp_loop_rounds 1 ?_
        rw [rounds_succ]
        go_wp2_with fail
        go_quiet (fail)
        go_wp2_with fail
        refine (write_str B b (bs ++ ls) _ _ ?_ ?_ ?_).mono ?_
        · exact HBF.out
        · exact hBw
        · rw [List.length_append]
          show bs.length + ls.length + 6 ≤ 2000000
          omega
        rintro e w3 ⟨rfl, h3, b3, k3⟩
        have HB3 := hid h3
        have HL3 := hid b3
        have HK3 := hid k3
        clear h3 b3 k3
        go_wp2_with fail
        go_roundw
        case rel => exact ⟨i + 1, by omega, by go_num, by rw [HET.out, he.out, ← List.append_assoc]; exact HB3.out, (below_drewN HBL.out _).trans HL3.out, Lib.OthersKept.trans HK.out (show Lib.OthersKept _ _ wr w3 from HK3.out)⟩
        case measure => simp [intOf]; omega
      by_cases h38 : bt s i = 38
      · have he := hid (show esc1 c = [38, 97, 109, 112, 59] by rw [HC.out 38 h38]; rfl)
        have b34 : (bt s i == 34) = false := by simpa using h34
        go_wp2_with fail
        refine wp_loop_rounds 2 ?_
        rw [rounds_succ]
        go_wp2_with fail
        go_quiet (fail)
        go_wp2_with fail
        rw [rounds_succ]
        go_wp2_with fail
        go_quiet (fail)
        go_wp2_with fail
        refine (write_str B b (bs ++ ls) _ _ ?_ ?_ ?_).mono ?_
        · exact HBF.out
        · exact hBw
        · rw [List.length_append]
          show bs.length + ls.length + 5 ≤ 2000000
          omega
        rintro e w3 ⟨rfl, h3, b3, k3⟩
        have HB3 := hid h3
        have HL3 := hid b3
        have HK3 := hid k3
        clear h3 b3 k3
        go_wp2_with fail
        go_roundw
        case rel => exact ⟨i + 1, by omega, by go_num, by rw [HET.out, he.out, ← List.append_assoc]; exact HB3.out, (below_drewN HBL.out _).trans HL3.out, Lib.OthersKept.trans HK.out (show Lib.OthersKept _ _ wr w3 from HK3.out)⟩
        case measure => simp [intOf]; omega
      by_cases h60 : bt s i = 60
      · have he := hid (show esc1 c = [38, 108, 116, 59] by rw [HC.out 60 h60]; rfl)
        have b34 : (bt s i == 34) = false := by simpa using h34
        have b38 : (bt s i == 38) = false := by simpa using h38
        go_wp2_with fail
        refine wp_loop_rounds 3 ?_
        rw [rounds_succ]
        go_wp2_with fail
        go_quiet (fail)
        go_wp2_with fail
        rw [rounds_succ]
        go_wp2_with fail
        go_quiet (fail)
        go_wp2_with fail
        rw [rounds_succ]
        go_wp2_with fail
        go_quiet (fail)
        go_wp2_with fail
        refine (write_str B b (bs ++ ls) _ _ ?_ ?_ ?_).mono ?_
        · exact HBF.out
        · exact hBw
        · rw [List.length_append]
          show bs.length + ls.length + 4 ≤ 2000000
          omega
        rintro e w3 ⟨rfl, h3, b3, k3⟩
        have HB3 := hid h3
        have HL3 := hid b3
        have HK3 := hid k3
        clear h3 b3 k3
        go_wp2_with fail
        go_roundw
        case rel => exact ⟨i + 1, by omega, by go_num, by rw [HET.out, he.out, ← List.append_assoc]; exact HB3.out, (below_drewN HBL.out _).trans HL3.out, Lib.OthersKept.trans HK.out (show Lib.OthersKept _ _ wr w3 from HK3.out)⟩
        case measure => simp [intOf]; omega
      by_cases h62 : bt s i = 62
      · have he := hid (show esc1 c = [38, 103, 116, 59] by rw [HC.out 62 h62]; rfl)
        have b34 : (bt s i == 34) = false := by simpa using h34
        have b38 : (bt s i == 38) = false := by simpa using h38
        have b60 : (bt s i == 60) = false := by simpa using h60
        go_wp2_with fail
        refine wp_loop_rounds 4 ?_
        rw [rounds_succ]
        go_wp2_with fail
        go_quiet (fail)
        go_wp2_with fail
        rw [rounds_succ]
        go_wp2_with fail
        go_quiet (fail)
        go_wp2_with fail
        rw [rounds_succ]
        go_wp2_with fail
        go_quiet (fail)
        go_wp2_with fail
        rw [rounds_succ]
        go_wp2_with fail
        go_quiet (fail)
        go_wp2_with fail
        refine (write_str B b (bs ++ ls) _ _ ?_ ?_ ?_).mono ?_
        · exact HBF.out
        · exact hBw
        · rw [List.length_append]
          show bs.length + ls.length + 4 ≤ 2000000
          omega
        rintro e w3 ⟨rfl, h3, b3, k3⟩
        have HB3 := hid h3
        have HL3 := hid b3
        have HK3 := hid k3
        clear h3 b3 k3
        go_wp2_with fail
        go_roundw
        case rel => exact ⟨i + 1, by omega, by go_num, by rw [HET.out, he.out, ← List.append_assoc]; exact HB3.out, (below_drewN HBL.out _).trans HL3.out, Lib.OthersKept.trans HK.out (show Lib.OthersKept _ _ wr w3 from HK3.out)⟩
        case measure => simp [intOf]; omega
      · have he := hid (esc1_other HBT.out h34 h38 h60 h62)
        have b34 : (bt s i == 34) = false := by simpa using h34
        have b38 : (bt s i == 38) = false := by simpa using h38
        have b60 : (bt s i == 60) = false := by simpa using h60
        have b62 : (bt s i == 62) = false := by simpa using h62
        go_wp2_with fail
        refine wp_loop_rounds 5 ?_
        rw [rounds_succ]
        go_wp2_with fail
        go_quiet (fail)
        go_wp2_with fail
        rw [rounds_succ]
        go_wp2_with fail
        go_quiet (fail)
        go_wp2_with fail
        rw [rounds_succ]
        go_wp2_with fail
        go_quiet (fail)
        go_wp2_with fail
        rw [rounds_succ]
        go_wp2_with fail
        go_quiet (fail)
        go_wp2_with fail
        rw [rounds_succ]
        go_wp2_with fail
        rw [HBT.out]
        refine (write_byte B b (bs ++ ls) c _ ?_ ?_ ?_).mono ?_
        · exact HBF.out
        · exact hBw
        · rw [List.length_append]
          omega
        rintro e w3 ⟨rfl, h3, b3, k3⟩
        have HB3 := hid h3
        have HL3 := hid b3
        have HK3 := hid k3
        clear h3 b3 k3
        go_wp2_with fail
        go_roundw
        case rel => exact ⟨i + 1, by omega, by go_num, by rw [HET.out, he.out, ← List.append_assoc]; exact HB3.out, (below_drewN HBL.out _).trans HL3.out, Lib.OthersKept.trans HK.out (show Lib.OthersKept _ _ wr w3 from HK3.out)⟩
        case measure => simp [intOf]; omega
    · obtain rfl : i = s.size := by omega
      have ht : s.data.toList.take s.size = s.data.toList := List.take_of_length_le (by rw [HL.out]; exact Nat.le_refl _)
      rw [ht] at hbf
      have HBF := hid hbf
      have HBL := hid hbel
      have HK := hid hk
      clear ht hbf hbel hk
      go_wp2_with fail
      all_goals (try rw [Exit.noGoto_normal])
      go_end0
      exact ⟨rfl, HBF.out, HBL.out, HK.out⟩
set_option maxRecDepth 20000 in
set_option maxHeartbeats 800000 in
theorem replace_any (n : Nat) (s : ByteArray) (w : World) (hn : Blk w n 9 pairsC) (hs : s.size ≤ 100000) :
    Calls Tryz.prog 265 #[.slice (some ⟨n, 0, none⟩) 8 8, .string s] w fun e w' => e = .returned (.string ⟨(esc s.data.toList).toArray⟩) ∧ Below w.heap.size w w' := by
  have hw := hid (pairs_write w.heap.size w.heap.size n [] s (w.alloc (.cells #[.slice none 0 0, .int .i64 0, .int .i8 0] 73)) (Blk.alloc hn _) (Lib.fresh_isBuffer _ _ _) (by simp) hs (by simp))
  clear hn
  go_enter Tryz.func265, Tryz.ntmps265
  go_wp2_with fail
  refine hw.out.mono ?_
  rintro e w1 ⟨rfl, hb1, hbl1, _⟩
  have HB1 := hid hb1
  have HBL1 := hid hbl1
  clear hb1 hbl1
  go_wp2_with fail
  refine (buf_str w.heap.size w.heap.size _ _ HB1.out).mono ?_
  rintro e w2 ⟨rfl, n2, rfl⟩
  go_wp2_with fail
  go_ret
  exact ⟨rfl, below_drewN (((Below.refl _ _).alloc (Nat.le_refl _) _).trans HBL1.out) n2⟩
end Go.Proofs.YtmmijmhdbpldpaaGreatDoor
/- Code blocks, printed. -/


namespace Go.Proofs.YtmmijmhdbpldpaaGreatDoor
open Go.RowKit
def codeHead : List UInt8 := [60, 112, 114, 101, 62, 60, 99, 111, 100, 101, 62]
def codeTail : List UInt8 := [60, 47, 99, 111, 100, 101, 62, 60, 47, 112, 114, 101, 62, 10]
/-- What a block of code without an info string is printed as. -/
def codeOut (ls : List (List UInt8)) : List UInt8 := codeHead ++ ls.flatMap (fun l => esc l ++ [10]) ++ codeTail
/-- Something that is neither a space nor a tab. -/
def Ink (s : ByteArray) : Prop := ∃ k, k < s.size ∧ bt s k ≠ 32 ∧ bt s k ≠ 9
def trimR (l : List UInt8) : List UInt8 := (l.reverse.dropWhile isST).reverse
theorem trimR_of (m : List UInt8) (j : Nat) (hj : j ≤ m.length) (h1 : ∀ k c, j ≤ k → m[k]? = some c → isST c = true) (h2 : ∀ i c, j = i + 1 → m[i]? = some c → isST c = false) : trimR m = m.take j := by
  unfold trimR
  rw [drop_of_while isST m.reverse (m.length - j), List.drop_reverse, List.reverse_reverse, show m.length - (m.length - j) = j from by omega]
  · intro k c hk hc
    rw [List.getElem?_reverse (by omega)] at hc
    exact h1 _ c (by omega) hc
  · intro c hc
    cases j with
    | zero => rw [List.getElem?_eq_none (by rw [List.length_reverse]; omega)] at hc; cases hc
    | succ i =>
      rw [List.getElem?_reverse (by omega), show m.length - 1 - (m.length - (i + 1)) = i from by omega] at hc
      exact h2 i c rfl hc
theorem trimR_nil (m : List UInt8) (h : trimR m = []) : ∀ x ∈ m, isST x = true := by
  unfold trimR at h
  intro x hx
  exact while_nil isST m.reverse (by simpa using h) x (by simpa using hx)
theorem trimL_head (l : List UInt8) (c : UInt8) (m : List UInt8) (h : trimL l = c :: m) : isST c = false := by
  induction l with
  | nil => simp [trimL] at h
  | cons a l ih =>
    unfold trimL at h
    rw [List.dropWhile_cons] at h
    by_cases ha : isST a = true
    · rw [if_pos ha] at h; exact ih h
    · rw [if_neg ha] at h
      simp only [List.cons.injEq] at h
      rw [← h.1]
      simpa using ha
/-- A line with ink is not trimmed to nothing. -/
theorem trim_ink (l : List UInt8) (h : ∃ c ∈ l, isST c = false) : trimR (trimL l) ≠ [] := by
  intro h0
  have h1 := trimR_nil _ h0
  obtain ⟨c, hc, hcs⟩ := h
  cases hm : trimL l with
  | nil =>
    have := while_nil isST l hm c hc
    rw [hcs] at this; cases this
  | cons a m =>
    have h2 := trimL_head l a m hm
    have := h1 a (by rw [hm]; exact List.mem_cons_self ..)
    rw [h2] at this; cases this
def TST1 (s : ByteArray) (t3 : Value) : Prop := ∃ i : Nat, i ≤ s.size ∧ t3 = .int .i64 i ∧ ∀ k c, k < i → s.data.toList[k]? = some c → isST c = true
def TST2 (s : ByteArray) (t4 : Value) : Prop := ∃ j : Nat, j ≤ s.size ∧ t4 = .int .i64 j ∧ ∀ k c, j ≤ k → s.data.toList[k]? = some c → isST c = true
set_option maxHeartbeats 1600000 in
theorem trimST_any (s : ByteArray) (w : World) (hs : s.size ≤ 100000) :
    Calls Tryz.prog 64 #[.string s] w fun e w' => e = .returned (.string ⟨(trimR (trimL s.data.toList)).toArray⟩) ∧ w = w' := by
  have hb := get_bt
  have HL := hid (Lib.size_eq s)
  have second : ∀ i, i ≤ s.size → (∀ k c, k < i → s.data.toList[k]? = some c → isST c = true) → (∀ c, s.data.toList[i]? = some c → isST c = false) → s.extract i s.size = ⟨(trimL s.data.toList).toArray⟩ ∧ (trimL s.data.toList).length = s.size - i := by
    intro i hi h1 h2
    have h3 : trimL s.data.toList = s.data.toList.drop i := drop_of_while isST _ i h1 h2
    exact ⟨by rw [extract_end, h3], by rw [h3, List.length_drop, HL.out]⟩
  have SEC := hid second
  clear second
  go_enter Tryz.func64, Tryz.ntmps64
  go_wp2
  go_loop [3] (fun t3 => TST1 s t3) (fun t3 => s.size - (intOf t3).toNat)
  case atStart => exact ⟨0, Nat.zero_le _, rfl, fun k c h => absurd h (by omega)⟩
  case round =>
    obtain ⟨i, hi, rfl, hsp⟩ := hrel
    have HSP := hid hsp
    clear hsp
    have step : ∀ c, s.data.toList[i]? = some c → isST c = true → ∀ k d, k < i + 1 → s.data.toList[k]? = some d → isST d = true := by
      intro c hc hst j d hj hd
      rcases Nat.lt_or_ge j i with h1 | h1
      · exact HSP.out j d h1 hd
      · obtain rfl : j = i := by omega
        rw [hc] at hd; cases hd; exact hst
    have ST := hid step
    clear step
    by_cases hgo : i < s.size ∧ (bt s i = 32 ∨ bt s i = 9)
    · obtain ⟨hlt, hgo⟩ := hgo
      obtain ⟨c, hc, hbt⟩ := bt_at s hlt
      have HC := hid hc
      have HB := hid hbt
      clear hc hbt
      rcases hgo with h1 | h1
      · go_wp2
        go_round
        case rel => exact ⟨i + 1, by omega, by go_num, ST.out c HC.out (isST_of (.inl (HB.out ▸ h1)))⟩
        case measure => simp [intOf]; omega
      · go_wp2
        go_round
        case rel => exact ⟨i + 1, by omega, by go_num, ST.out c HC.out (isST_of (.inr (HB.out ▸ h1)))⟩
        case measure => simp [intOf]; omega
    · have hend : ∀ c, s.data.toList[i]? = some c → isST c = false := by
        intro c hc
        have hlt : i < s.size := by
          rw [HL.out]
          exact (List.getElem?_eq_some_iff.1 hc).1
        obtain ⟨d, hd, hbt⟩ := bt_at s hlt
        rw [hc] at hd; cases hd
        exact isST_not (fun e => hgo ⟨hlt, .inl (hbt.trans e)⟩) (fun e => hgo ⟨hlt, .inr (hbt.trans e)⟩)
      obtain ⟨hex, hml⟩ := SEC.out i hi HSP.out hend
      have HEX := hid hex
      have HML := hid hml
      have hz : (s.extract i s.size).size = s.size - i := by simp
      have HZ := hid hz
      have HGO := hid hgo
      clear hgo hend hex hml hz
      have b1 : i < s.size → (bt s i == 32) = false := fun h => by simpa using fun e => HGO.out ⟨h, .inl e⟩
      have b2 : i < s.size → (bt s i == 9) = false := fun h => by simpa using fun e => HGO.out ⟨h, .inr e⟩
      have B1 := hid b1
      have B2 := hid b2
      clear b1 b2
      by_cases hlt : i < s.size
      · have b1 := B1.out hlt
        have b2 := B2.out hlt
        go_wp2
        clear b1 b2
        generalize s.extract i s.size = s2 at HEX HZ ⊢
        have hz2 := HZ.out
        have HL2 := hid (Lib.size_eq s2)
        have hz3 : s2.size ≤ 100000 := by omega
        clear hlt
        go_loop [4] (fun t4 => TST2 s2 t4) (fun t4 => (intOf t4).toNat)
        case atStart => exact ⟨s2.size, Nat.le_refl _, by rw [HZ.out], fun k c h1 h2 => by
          rw [List.getElem?_eq_none (by rw [← HL2.out]; omega)] at h2
          cases h2⟩
        case round =>
          obtain ⟨j, hj, rfl, hst⟩ := hrel
          have HST := hid hst
          clear hst
          have hres : (∀ q c, j = q + 1 → s2.data.toList[q]? = some c → isST c = false) → s2.extract 0 j = ⟨(trimR (trimL s.data.toList)).toArray⟩ := by
            intro h
            have e1 : s2.data.toList = trimL s.data.toList := by rw [HEX.out]
            rw [← e1, trimR_of s2.data.toList j (by rw [← HL2.out]; exact hj) HST.out h, Lib.extract_eq]
            simp
          have HRES := hid hres
          clear hres hz2
          cases j with
          | zero =>
            have hr := hid (HRES.out (fun q c h => by omega))
            go_wp2
            go_ret
            exact ⟨ret_str (by rw [← hr.out]; simp), rfl⟩
          | succ m =>
            have hm : m < s2.size := by omega
            obtain ⟨c, hc, hbt⟩ := bt_at s2 hm
            have HC := hid hc
            have HB := hid hbt
            clear hc hbt
            have stp : isST c = true → ∀ k d, m ≤ k → s2.data.toList[k]? = some d → isST d = true := fun hs k d hk hd => by
              rcases Nat.lt_or_ge m k with h1 | h1
              · exact HST.out k d h1 hd
              · obtain rfl : k = m := by omega
                rw [HC.out] at hd; cases hd; exact hs
            have STP := hid stp
            clear stp
            by_cases h32 : bt s2 m = 32
            · go_wp2
              go_round
              case rel => exact ⟨m, by omega, by go_num, STP.out (isST_of (.inl (HB.out ▸ h32)))⟩
              case measure => simp [intOf]
            by_cases h9 : bt s2 m = 9
            · go_wp2
              go_round
              case rel => exact ⟨m, by omega, by go_num, STP.out (isST_of (.inr (HB.out ▸ h9)))⟩
              case measure => simp [intOf]
            have b1 : (bt s2 m == 32) = false := by simpa using h32
            have b2 : (bt s2 m == 9) = false := by simpa using h9
            have hr := hid (HRES.out (fun q d h hd => by
              obtain rfl : q = m := by omega
              rw [HC.out] at hd; cases hd
              exact isST_not (fun e => h32 (HB.out.trans e)) (fun e => h9 (HB.out.trans e))))
            go_wp2
            go_ret
            exact ⟨ret_str hr.out, rfl⟩
      · go_wp2
        generalize s.extract i s.size = s2 at HEX HZ ⊢
        have hz2 := HZ.out
        have HL2 := hid (Lib.size_eq s2)
        have hz3 : s2.size ≤ 100000 := by omega
        clear hlt
        go_loop [4] (fun t4 => TST2 s2 t4) (fun t4 => (intOf t4).toNat)
        case atStart => exact ⟨s2.size, Nat.le_refl _, by rw [HZ.out], fun k c h1 h2 => by
          rw [List.getElem?_eq_none (by rw [← HL2.out]; omega)] at h2
          cases h2⟩
        case round =>
          obtain ⟨j, hj, rfl, hst⟩ := hrel
          have HST := hid hst
          clear hst
          have hres : (∀ q c, j = q + 1 → s2.data.toList[q]? = some c → isST c = false) → s2.extract 0 j = ⟨(trimR (trimL s.data.toList)).toArray⟩ := by
            intro h
            have e1 : s2.data.toList = trimL s.data.toList := by rw [HEX.out]
            rw [← e1, trimR_of s2.data.toList j (by rw [← HL2.out]; exact hj) HST.out h, Lib.extract_eq]
            simp
          have HRES := hid hres
          clear hres hz2
          cases j with
          | zero =>
            have hr := hid (HRES.out (fun q c h => by omega))
            go_wp2
            go_ret
            exact ⟨ret_str (by rw [← hr.out]; simp), rfl⟩
          | succ m =>
            have hm : m < s2.size := by omega
            obtain ⟨c, hc, hbt⟩ := bt_at s2 hm
            have HC := hid hc
            have HB := hid hbt
            clear hc hbt
            have stp : isST c = true → ∀ k d, m ≤ k → s2.data.toList[k]? = some d → isST d = true := fun hs k d hk hd => by
              rcases Nat.lt_or_ge m k with h1 | h1
              · exact HST.out k d h1 hd
              · obtain rfl : k = m := by omega
                rw [HC.out] at hd; cases hd; exact hs
            have STP := hid stp
            clear stp
            by_cases h32 : bt s2 m = 32
            · go_wp2
              go_round
              case rel => exact ⟨m, by omega, by go_num, STP.out (isST_of (.inl (HB.out ▸ h32)))⟩
              case measure => simp [intOf]
            by_cases h9 : bt s2 m = 9
            · go_wp2
              go_round
              case rel => exact ⟨m, by omega, by go_num, STP.out (isST_of (.inr (HB.out ▸ h9)))⟩
              case measure => simp [intOf]
            have b1 : (bt s2 m == 32) = false := by simpa using h32
            have b2 : (bt s2 m == 9) = false := by simpa using h9
            have hr := hid (HRES.out (fun q d h hd => by
              obtain rfl : q = m := by omega
              rw [HC.out] at hd; cases hd
              exact isST_not (fun e => h32 (HB.out.trans e)) (fun e => h9 (HB.out.trans e))))
            go_wp2
            go_ret
            exact ⟨ret_str hr.out, rfl⟩
theorem IsBuf.old {B b : Nat} {l : List UInt8} {w w' : World} (h : IsBuf B b l w) (hb : Below w.heap.size w w') : IsBuf B b l w' := by
  obtain ⟨h0, v, lr, h1, h2, h3⟩ := h
  have hm : Mod (fun _ => False) w w' := Mod.below' hb
  exact ⟨h0, v, lr, (Blk.mod (t := 73) h1 hm (fun x => x)), own_mod h2 hm (fun _ _ x => x), h3⟩
theorem own_form {w : World} {base : Nat} {e : TypeId} {size n : Nat} {v : Value} {xs : List Value} (h : w.ownsRow base e size v n xs) (hn : 0 < n) : ∃ g cap, v = .slice (some ⟨g, 0, none⟩) n cap ∧ base ≤ g ∧ g < w.heap.size := by
  rcases h.2 with ⟨_, h0⟩ | ⟨g, cap, cur, hv, hb, hg, _⟩
  · omega
  · exact ⟨g, cap, hv, hb, Blk.lt hg⟩
/-- What a loop over lines has printed. -/
def CodeR (B b : Nat) (pre : List UInt8) (n : Nat) (ls : List (List UInt8)) (w : World) (t : Value) (wr : World) : Prop :=
  ∃ i : Nat, i ≤ n ∧ t = .int .i64 i ∧ IsBuf B b (pre ++ (ls.take i).flatMap (fun l => esc l ++ [10])) wr ∧ Below B w wr ∧ Kept b w wr
def lineV (l : List UInt8) : Value := .string ⟨l.toArray⟩
/-- An indented block's node: no fence, no info string, lines ls. -/
def IsCode (w : World) (cb base : Nat) (ls : List (List UInt8)) : Prop :=
  ∃ (sl el : Int) (v : Sl), Blk w cb 369 #[.int .i64 sl, .int .i64 el, .string ⟨#[]⟩, .string ⟨#[]⟩, v.v] ∧ w.ownsRow base 9 1 v.v v.n (ls.map lineV)
theorem code_len (L : List (List UInt8)) (i : Nat) (h : ∀ l ∈ L, l.length ≤ 300) : ((L.take i).flatMap (fun l => esc l ++ [10])).length ≤ 2000 * i := by
  induction i with
  | zero => simp
  | succ i ih =>
    rw [List.take_add_one, List.flatMap_append, List.length_append]
    cases hg : L[i]? with
    | none =>
      simp only [Option.toList_none, List.flatMap_nil, List.length_nil]
      omega
    | some l =>
      have h1 := h l (List.mem_of_getElem? hg)
      have h2 := esc_len l
      simp only [Option.toList_some, List.flatMap_cons, List.flatMap_nil, List.append_nil, List.length_append, List.length_cons, List.length_nil]
      omega
set_option maxRecDepth 20000 in
set_option maxHeartbeats 4000000 in
theorem codeHTML_any (B b cb base : Nat) (ls : List (List UInt8)) (last : List UInt8) (w : World) (hcode : IsCode w cb base (ls ++ [last])) (hbuf : IsBuf B b [] w) (hB : B ≤ w.heap.size) (hn : ls.length ≤ 100) (hlen : ∀ l ∈ ls ++ [last], l.length ≤ 300) (hink : ∃ c ∈ last, isST c = false) :
    Calls Tryz.prog 335 #[.pointer (some ⟨cb, 0, none⟩), .pointer (some ⟨b, 0, none⟩)] w (PrintP B b [] (codeOut (ls ++ [last])) w) := by
  obtain ⟨sl, el, v, hblk, hrow⟩ := hcode
  have hvn : v.n = ls.length + 1 := by have := hrow.1; simp at this; omega
  obtain ⟨ra, rn, rc⟩ := v
  dsimp only at hvn
  subst hvn
  obtain ⟨rb, rcap, hra, hBr, hrlt⟩ := own_form hrow (by simp)
  simp only [Sl.v, Value.slice.injEq] at hra
  obtain ⟨rfl, _, rfl⟩ := hra
  obtain ⟨bcs, hbb⟩ := hbuf.blk
  have hcb : cb ≠ b := Blk.ne_ hblk hbb (by decide)
  have hrb := own_ne hrow hbb (by decide)
  have HBUF := hid hbuf
  have HBLK := hid hblk
  have HROW := hid hrow
  have HINK := hid hink
  have HLEN := hid hlen
  clear hbuf hblk hrow hink hlen hbb
  go_enter Tryz.func335, Tryz.ntmps335
  go_wp2_with fail
  refine (buf_len B b [] _ HBUF.out).mono ?_
  rintro e w1 ⟨rfl, n1, rfl⟩
  go_wp2_with fail
  refine (write_str B b [] _ _ ?_ ?_ ?_).mono ?_
  · exact HBUF.out
  · exact hB
  · show 0 + 10 ≤ 2000000
    omega
  rintro e w2 ⟨rfl, h2, b2, k2⟩
  have hk2 : Kept b w w2 := k2
  have hb2 : Below B w w2 := (below_drewN (Below.refl _ _) n1).trans b2
  have hi2 : IsBuf B b [60, 112, 114, 101, 62, 60, 99, 111, 100, 101] w2 := h2
  have d3 := (HBLK.out.kept hk2 hcb (by decide)).at_ 3 rfl
  have HK2 := hid hk2
  have HB2 := hid hb2
  have HI2 := hid hi2
  clear h2 b2 k2 hk2 hb2 hi2
  go_wp2_with fail
  refine (write_str B b [60, 112, 114, 101, 62, 60, 99, 111, 100, 101] _ _ ?_ ?_ ?_).mono ?_
  · exact HI2.out
  · exact Nat.le_trans hB HB2.out.size
  · show 10 + 1 ≤ 2000000
    omega
  rintro e w3 ⟨rfl, h3, b3, k3⟩
  have hk3 : Kept b w w3 := Lib.OthersKept.trans HK2.out k3
  have hb3 : Below B w w3 := HB2.out.trans b3
  have hi3 : IsBuf B b codeHead w3 := h3
  have hblk3 := HBLK.out.kept hk3 hcb (by decide)
  have hrow3 := own_kept HROW.out hk3 hrb (by decide)
  have d2 := hblk3.at_ 2 rfl
  have d4 : w3.cell? ⟨cb, 4, none⟩ = some (.slice (some ⟨rb, 0, none⟩) (ls.length + 1) rc) := hblk3.at_ 4 rfl
  have r0 : w3.cell? ⟨rb, ls.length, none⟩ = some (lineV last) := by
    rw [World.ownsRow.cellAt hrow3 _ (by simp)]
    simp
  unfold lineV at r0
  have hlast : last.length ≤ 300 := HLEN.out last (by simp)
  have hsz : (ByteArray.mk last.toArray).size ≤ 100000 := bsz (by omega)
  have HK3 := hid hk3
  have HB3 := hid hb3
  have HI3 := hid hi3
  have HBK3 := hid hblk3
  have HRW3 := hid hrow3
  clear h3 b3 k3 hk3 hb3 hi3 hblk3 hrow3
  have hl1 : (0 : Int) ≤ (ls.length : Int) := by omega
  go_wp2_with fail
  refine wp_loop_rounds 1 ?_
  rw [rounds_succ]
  go_wp2_with fail
  have hte : (trimR (trimL last)).isEmpty = false := by
    cases hx : trimR (trimL last) with
    | nil => exact absurd hx (trim_ink last HINK.out)
    | cons a m => rfl
  go_quiet ((go_at_call 64; exact quiet_left (trimST_any _ _ hsz)))
  go_wp2_with fail
  have hkA : Hid (Kept b w (w3.drewN nq)) := hid HK3.out
  have hbA : Hid (Below B w (w3.drewN nq)) := hid (below_drewN HB3.out nq)
  have hiA : Hid (IsBuf B b codeHead (w3.drewN nq)) := hid HI3.out
  have hrA : Hid ((w3.drewN nq).ownsRow base 9 1 (.slice (some ⟨rb, 0, none⟩) (ls.length + 1) rc) (ls.length + 1) ((ls ++ [last]).map lineV)) := hid (World.ownsRow.drewN HRW3.out nq)
  clear d2 d4 r0 hte HK3 HB3 HI3 HBK3 HRW3 hl1
  generalize World.drewN w3 nq = wa at hkA hbA hiA hrA ⊢
  go_loopw [101] (fun t wr => CodeR B b codeHead (ls.length + 1) (ls ++ [last]) wa t wr) (fun t _ => ls.length + 1 - (intOf t).toNat)
  case atStart => exact ⟨0, Nat.zero_le _, rfl, by simpa using hiA.out, Below.refl _ _, Lib.OthersKept.refl _ _ _⟩
  case round =>
    obtain ⟨i, hi, rfl, hbf, hbel, hk⟩ := hrel
    have hll : (ls ++ [last]).length = ls.length + 1 := by simp
    have HLL := hid hll
    clear hll
    by_cases hlt : i < ls.length + 1
    · have hy : i < (ls ++ [last]).length := by rw [HLL.out]; exact hlt
      have hrw := own_kept hrA.out hk hrb (by decide)
      have r0 : wr.cell? ⟨rb, i, none⟩ = some (lineV ((ls ++ [last])[i]'hy)) := by
        rw [World.ownsRow.cellAt hrw _ (by omega), List.getElem?_map, List.getElem?_eq_getElem hy]
        rfl
      have hlen := HLEN.out _ (List.getElem_mem hy)
      have htk := hid (show ((ls ++ [last]).take (i + 1)).flatMap (fun l => esc l ++ [10]) = ((ls ++ [last]).take i).flatMap (fun l => esc l ++ [10]) ++ (esc ((ls ++ [last])[i]'hy) ++ [10]) by rw [List.take_add_one, List.getElem?_eq_getElem hy, List.flatMap_append]; simp only [Option.toList_some, List.flatMap_cons, List.flatMap_nil, List.append_nil])
      have hpl := hid (code_len (ls ++ [last]) i HLEN.out)
      generalize (ls ++ [last])[i]'hy = l at r0 hlen htk
      generalize ((ls ++ [last]).take i).flatMap (fun l => esc l ++ [10]) = pre at hbf htk hpl
      have hpl2 := hpl.out
      unfold lineV at r0
      have HBF := hid hbf
      have HBL := hid hbel
      have HK := hid hk
      clear hbf hbel hk hrw
      go_wp2_with fail
      refine (htmlEscaper_any _).mono ?_
      rintro e w4 ⟨n4, rfl, hn4, hp4, hb4⟩
      have hi4 := hid (IsBuf.old HBF.out hb4)
      have hk4 := hid (Lib.OthersKept.below HK.out hb4)
      have hB4 := hid (HBL.out.trans (hb4.mono (Nat.le_trans (Nat.le_trans hB hbA.out.size) HBL.out.size)))
      have HP4 := hid hp4
      clear hp4 hb4 r0
      go_wp2_with fail
      refine (replace_any n4 _ _ HP4.out (bsz (by omega))).mono ?_
      rintro e w5 ⟨rfl, hb5⟩
      have hi5 := hid (IsBuf.old hi4.out hb5)
      have hk5 := hid (Lib.OthersKept.below hk4.out hb5)
      have hB5 := hid (hB4.out.trans (hb5.mono (Nat.le_trans (Nat.le_trans hB hbA.out.size) hB4.out.size)))
      clear hb5
      have hel := esc_len l
      have hsz5 : B ≤ w5.heap.size := Nat.le_trans (Nat.le_trans hB hbA.out.size) hB5.out.size
      go_wp2_with fail
      refine (write_str B b (codeHead ++ pre) ⟨(esc l).toArray⟩ _ ?_ ?_ ?_).mono ?_
      · exact hi5.out
      · exact hsz5
      · rw [List.length_append]
        show 11 + pre.length + (esc l).toArray.size ≤ 2000000
        rw [List.size_toArray]
        omega
      rintro e w6 ⟨rfl, h6, b6, k6⟩
      have hi6 := hid (show IsBuf B b (codeHead ++ pre ++ esc l) w6 from h6)
      have hB6 := hid (hB5.out.trans b6)
      have hk6 := hid (Lib.OthersKept.trans hk5.out k6)
      clear h6 b6 k6
      go_wp2_with fail
      refine (write_str B b (codeHead ++ pre ++ esc l) ⟨#[10]⟩ _ ?_ ?_ ?_).mono ?_
      · exact hi6.out
      · exact Nat.le_trans (Nat.le_trans hB hbA.out.size) hB6.out.size
      · rw [List.length_append, List.length_append]
        show 11 + pre.length + (esc l).length + 1 ≤ 2000000
        omega
      rintro e w7 ⟨rfl, h7, b7, k7⟩
      have hi7 := hid (show IsBuf B b (codeHead ++ pre ++ esc l ++ [10]) w7 from h7)
      have hB7 := hid (hB6.out.trans b7)
      have hk7 := hid (Lib.OthersKept.trans hk6.out k7)
      clear h7 b7 k7
      go_wp2_with fail
      go_roundw
      case rel => exact ⟨i + 1, by omega, by go_num, by rw [htk.out, ← List.append_assoc, ← List.append_assoc]; exact hi7.out, hB7.out, hk7.out⟩
      case measure => simp [intOf]; omega
    · obtain rfl : i = ls.length + 1 := by omega
      have htk : (ls ++ [last]).take (ls.length + 1) = ls ++ [last] := List.take_of_length_le (by rw [HLL.out]; exact Nat.le_refl _)
      have hpl := hid (code_len (ls ++ [last]) (ls.length + 1) HLEN.out)
      rw [htk] at hbf hpl
      have HBF := hid hbf
      have HBL := hid hbel
      have HK := hid hk
      clear hbf hbel hk htk
      go_wp2_with fail
      refine (write_str B b (codeHead ++ (ls ++ [last]).flatMap (fun l => esc l ++ [10])) ⟨#[60, 47, 99, 111, 100, 101, 62, 60, 47, 112, 114, 101, 62, 10]⟩ _ ?_ ?_ ?_).mono ?_
      · exact HBF.out
      · exact Nat.le_trans (Nat.le_trans hB hbA.out.size) HBL.out.size
      · have := hpl.out
        rw [List.length_append]
        show 11 + _ + 14 ≤ 2000000
        omega
      rintro e w7 ⟨rfl, h7, b7, k7⟩
      have hi7 := hid (show IsBuf B b (codeOut (ls ++ [last])) w7 from h7)
      have hB7 := hid ((hbA.out.trans HBL.out).trans b7)
      have hk7 := hid (Lib.OthersKept.trans (Lib.OthersKept.trans hkA.out HK.out) k7)
      clear h7 b7 k7
      go_wp2_with fail
      go_end0
      exact ⟨rfl, hi7.out, hB7.out, hk7.out⟩
end Go.Proofs.YtmmijmhdbpldpaaGreatDoor
/- The block starters that decline a line: headings. -/

namespace Go.Proofs.YtmmijmhdbpldpaaGreatDoor
open Go.RowKit
set_option maxHeartbeats 1600000 in
theorem newATX_no (g i : Nat) (tb nl : Int) (s : ByteArray) (w : World) (hs : s.size ≤ 140737488355328) (hi : i ≤ s.size) (ht : ∀ k, bt s k ≠ 9) (hq : ∀ k, i ≤ k → k ≤ i + 3 → bt s k ≠ 35) :
    Calls Tryz.prog 86 #[.pointer (some ⟨g, 0, none⟩), lnV i tb s nl] w fun e w' => e = .returned (.tuple #[lnV i tb s nl, .bool false]) ∧ Below w.heap.size w w' := by
  have HT := hid ht
  have HQ := hid hq
  clear ht hq
  go_enter Tryz.func86, Tryz.ntmps86
  go_wp2_with fail
  refine (trimHeading_no _ i _ tb nl s _ (Blk.alloc (Blk.new' (by simp)) _) hs hi HT.out HQ.out).mono ?_
  rintro e w1 ⟨rfl, hb⟩
  have hm2 := Mod.below' (S := fun _ => False) hb
  have hbox : IsLn w1 w.heap.size i tb s nl := (Blk.alloc (Blk.alloc (Blk.alloc (Blk.new' rfl) _) _) _ : Blk _ w.heap.size 104 (lnC i tb s nl)).mod (S := fun _ => False) hm2 (fun h => h)
  have hres : Blk w1 (w.heap.size + 1) 104 #[.int .i64 0, .int .i64 0, .int .i64 0, .string ⟨#[]⟩, .int .u8 0] := (Blk.alloc (Blk.alloc (Blk.new' (by simp)) _) _ : Blk _ (w.heap.size + 1) 104 #[.int .i64 0, .int .i64 0, .int .i64 0, .string ⟨#[]⟩, .int .u8 0]).mod (S := fun _ => False) hm2 (fun h => h)
  have hbel : Below w.heap.size w w1 := (((((Below.refl _ _).alloc (Nat.le_refl _) _).alloc (by simp) _).alloc (by simp; omega) _).alloc (by simp; omega) _).trans (hb.mono (by simp; omega))
  clear hb hm2
  have c0 := hbox.c0
  have c1 := hbox.c1
  have c2 := hbox.c2
  have c3 := hbox.c3
  have c4 := hbox.c4
  have r0 := hres.at_ 0 rfl
  have r1 := hres.at_ 1 rfl
  have r2 := hres.at_ 2 rfl
  have r3 := hres.at_ 3 rfl
  have r4 := hres.at_ 4 rfl
  have fr := hres.free
  have HR := hid hres
  have HB := hid hbel
  clear hbox hres hbel
  unfold lnV
  go_wp2_with fail
  have hln : Hid (IsLn _ (w.heap.size + 1) i tb s nl) := hid (ln_store HR.out i tb nl s)
  have hb2 : Hid (Below w.heap.size w _) := hid (((((HB.out.setCell (p := ⟨w.heap.size + 1, 0, none⟩) (by simp) (.int .i64 0)).setCell (p := ⟨w.heap.size + 1, 1, none⟩) (by simp) (.int .i64 i)).setCell (p := ⟨w.heap.size + 1, 2, none⟩) (by simp) (.int .i64 tb)).setCell (p := ⟨w.heap.size + 1, 3, none⟩) (by simp) (.string s)).setCell (p := ⟨w.heap.size + 1, 4, none⟩) (by simp) (.int .u8 nl))
  generalize World.setCell _ ⟨w.heap.size + 1, 4, none⟩ _ = wy at hln hb2 ⊢
  clear c0 c1 c2 c3 c4 r0 r1 r2 r3 r4 fr
  have k0 := hln.out.c0
  have k1 := hln.out.c1
  have k2 := hln.out.c2
  have k3 := hln.out.c3
  have k4 := hln.out.c4
  refine bodyPost_ret (by simp [results, Tryz.results86, go_sem, k0, k1, k2, k3, k4]; try rfl) rfl ?_
  exact ⟨rfl, hb2.out⟩
end Go.Proofs.YtmmijmhdbpldpaaGreatDoor
/- The stack's top: what comes next, and whether it is a paragraph. -/


namespace Go.Proofs.YtmmijmhdbpldpaaGreatDoor
open Go.RowKit
set_option maxHeartbeats 800000 in
theorem nextB_top (g : Nat) (r : PSr) (w : World) (hps : IsPS w g r) (hd : r.lineDepth = (r.stack.n : Int) - 1) (hn : r.stack.n ≤ 1000000) :
    Calls Tryz.prog 133 #[.pointer (some ⟨g, 0, none⟩)] w fun e w' => e = .returned .nilIface ∧ ∃ n, w' = w.drewN n := by
  have c4 := hps.c4
  have c5 := hps.c5
  rw [hd] at c5
  clear hd
  go_enter Tryz.func133, Tryz.ntmps133
  go_wp2
  go_quiet (fail)
  go_wp2
  go_ret
  exact ⟨rfl, _, rfl⟩
theorem ta_root_para (p : Option Addr) (w : World) : (Instr.typeAssert (.iface 98 (.pointer p)) 118 162 true).run Tryz.prog w = .ok (.tuple #[.pointer none, .bool false]) w := by kernel_rfl
set_option maxHeartbeats 1600000 in
theorem para_top (B g : Nat) (r : PSr) (es : List Ent) (e0 : Ent) (p : Option Addr) (w : World) (hps : IsPS w g r) (hst : IsStack w B r.stack (es ++ [e0])) (hn : es.length ≤ 1000000) (hb : e0.bt = 98) (hb2 : e0.bv = .pointer p) :
    Calls Tryz.prog 93 #[.pointer (some ⟨g, 0, none⟩)] w fun e w' => e = .returned (.pointer none) ∧ ∃ n, w' = w.drewN n := by
  obtain ⟨sb, cap, hv, hcap, hfr, hob, hsb, hBs, k0, k1, k2, k3⟩ := hst.top
  have c4 := hps.c4
  rw [hv] at c4
  rw [hb, hb2] at k0
  have ta := ta_root_para p
  have HV := hid hv
  have HOB := hid hob
  clear hv hob
  go_enter Tryz.func93, Tryz.ntmps93
  go_wp2
  go_quiet (fail)
  go_wp2
  go_ret
  exact ⟨rfl, _, rfl⟩
end Go.Proofs.YtmmijmhdbpldpaaGreatDoor
/- A line that nothing else takes begins a paragraph. -/







namespace Go.Proofs.YtmmijmhdbpldpaaGreatDoor
open Go.RowKit
theorem infoStrP : (Tryz.prog.info? 9).map (fun i => (i.zero, i.size, i.bytes)) = some (some (.string ⟨#[]⟩), 1, 16) := by kernel_rfl
def parE (pb : Nat) (sl el : Int) : Ent := ⟨162, .pointer (some ⟨pb, 0, none⟩), Sl.nil, sl, el⟩
/-- A builder of a paragraph, and its lines. -/
def IsPara (w : World) (B pb : Nat) (v : Sl) (ls : List Value) : Prop := Blk w pb 166 #[v.v, .pointer none] ∧ w.ownsRow B 9 1 v.v v.n ls ∧ B ≤ pb
theorem IsPara.lnKept {base B pb : Nat} {w w' : World} {v : Sl} {ls : List Value} (h : IsPara w B pb v ls) (hk : LnKept base w w') : IsPara w' B pb v ls := ⟨h.1.lnKept hk (by decide), own_lnKept h.2.1 hk (by decide), h.2.2⟩
theorem IsPara.far {B pb : Nat} {w : World} {v : Sl} {ls : List Value} (h : IsPara w B pb v ls) {p : Addr} {t : TypeId} {cs : Array Value} (hp : Blk w p.block t cs) (h1 : t ≠ 166) (h2 : t ≠ 9) (u : Value) : IsPara (w.setCell p u) B pb v ls :=
  ⟨h.1.far (Blk.ne_ h.1 hp h1.symm) u, own_far h.2.1 (own_ne h.2.1 hp h2.symm) u, h.2.2⟩
set_option maxHeartbeats 400000 in
theorem trimSS_any (g : Nat) (text : ByteArray) (i : Nat) (w : World) (hi : i ≤ text.size) (hs : text.size ≤ 140737488355328)
    (h1 : w.cell? ⟨g, 1, none⟩ = some (.int .i64 i)) (h3 : w.cell? ⟨g, 3, none⟩ = some (.string text)) :
    Calls Tryz.prog 94 #[.pointer (some ⟨g, 0, none⟩)] w fun e w' => e = .returned (.string ⟨(trimL (text.data.toList.drop i)).toArray⟩) ∧ ∃ n, w' = w.drewN n := by
  go_enter Tryz.func94, Tryz.ntmps94
  go_wp2
  go_quiet ((go_at_call 84; exact quiet_left (trimLeft_any _ _ (by simp; omega))))
  go_wp2
  go_ret
  exact ⟨ret_str (by rw [Lib.extract_data, List.take_of_length_le (by rw [List.length_drop, ← Lib.size_eq]; omega)]), _, rfl⟩
def NewParaP (B g : Nat) (r : PSr) (e0 : Ent) (txt : List UInt8) (w w' : World) : Prop :=
  ∃ st pb v, IsPS w' g { r with stack := st } ∧ IsStack w' B st ([] ++ [e0] ++ [parE pb r.lineno r.lineno]) ∧ IsPara w' B pb v [lineV txt] ∧ v.n = 1 ∧
    (∀ k, st.v.ownBlock = some k → r.stack.v.ownBlock = some k ∨ w.heap.size ≤ k) ∧ Mod (fun k => k = g ∨ some k = r.stack.v.ownBlock) w w'
set_option maxRecDepth 20000 in
set_option maxHeartbeats 4000000 in
theorem newPara_yes (B g : Nat) (r : PSr) (e0 : Ent) (p : Option Addr) (i : Nat) (nl : Int) (tbl : Bool) (s : ByteArray) (w : World) (hB : B ≤ w.heap.size) (hps : IsPS w g r) (hst : IsStack w B r.stack ([] ++ [e0])) (hd : r.lineDepth = 0) (hb1 : e0.bt = 98) (hb2 : e0.bv = .pointer p)
    (hs : s.size ≤ 1000000) (hi : i ≤ s.size) (htb : w.cell? ⟨r.parser, 5, none⟩ = some (.bool tbl)) :
    Calls Tryz.prog 62 #[.pointer (some ⟨g, 0, none⟩), lnV i 0 s nl] w fun e w' => e = .returned (.tuple #[lnV 0 0 ⟨#[]⟩ 0, .bool true]) ∧ NewParaP B g r e0 (trimL (s.data.toList.drop i)) w w' := by
  obtain ⟨is0, his, hsz0, hsz1, hsz2⟩ := info_parts infoStrP
  have hps0 := hps
  have HPS := hid hps
  have HST := hid hst
  have HD := hid hd
  have HTB := hid htb
  clear hps hst hd htb
  go_enter Tryz.func62, Tryz.ntmps62
  go_wp2_with fail
  refine (para_top B g r [] e0 p _ ((HPS.out.alloc _).alloc _) ((HST.out.alloc _).alloc _) (by simp) hb1 hb2).mono ?_
  rintro e w1 ⟨rfl, n1, rfl⟩
  go_wp2_with fail
  have hpA : Hid (IsPS (World.drewN _ n1) g r) := hid (((HPS.out.alloc (.cells #[.int .i64 0, .int .i64 i, .int .i64 0, .string s, .int .u8 nl] 104)).alloc (.cells #[.int .i64 0, .int .i64 0, .int .i64 0, .string ⟨#[]⟩, .int .u8 0] 104)).drewN n1)
  have hsA : Hid (IsStack (World.drewN _ n1) B r.stack ([] ++ [e0])) := hid (((HST.out.alloc (.cells #[.int .i64 0, .int .i64 i, .int .i64 0, .string s, .int .u8 nl] 104)).alloc (.cells #[.int .i64 0, .int .i64 0, .int .i64 0, .string ⟨#[]⟩, .int .u8 0] 104)).drewN n1)
  have hlA : Hid (IsLn (World.drewN _ n1) w.heap.size i 0 s nl) := hid (Blk.drewN (Blk.alloc (Blk.new w 104 #[.int .i64 0, .int .i64 i, .int .i64 0, .string s, .int .u8 nl]) (.cells #[.int .i64 0, .int .i64 0, .int .i64 0, .string ⟨#[]⟩, .int .u8 0] 104)) n1)
  have hrA : Hid (Blk (World.drewN _ n1) (w.heap.size + 1) 104 #[.int .i64 0, .int .i64 0, .int .i64 0, .string ⟨#[]⟩, .int .u8 0]) := hid (Blk.drewN (Blk.new' (w := World.alloc w (.cells #[.int .i64 0, .int .i64 i, .int .i64 0, .string s, .int .u8 nl] 104)) (by simp)) n1)
  have hbA : Hid (Below w.heap.size w (World.drewN _ n1)) := hid (below_drewN (((Below.refl _ w).alloc (Nat.le_refl _) (.cells #[.int .i64 0, .int .i64 i, .int .i64 0, .string s, .int .u8 nl] 104)).alloc (by simp) (.cells #[.int .i64 0, .int .i64 0, .int .i64 0, .string ⟨#[]⟩, .int .u8 0] 104)) n1)
  have htA : Hid (World.cell? (World.drewN _ n1) ⟨r.parser, 5, none⟩ = some (.bool tbl)) := hid ((hbA.out.cell (World.block_lt_of_cell? w _ HTB.out)).trans HTB.out)
  generalize World.drewN _ n1 = wa at hpA hsA hlA hrA hbA htA ⊢
  have c4 := hpA.out.c4
  have c5 := hpA.out.c5
  have c0 := hpA.out.c0
  rw [HD.out] at c5
  go_quiet (fail)
  go_wp2_with fail
  refine (trimSS_any w.heap.size s i _ hi (by omega) ?_ ?_).mono ?_
  · exact hlA.out.c1
  · exact hlA.out.c3
  rintro e w2 ⟨rfl, n2, rfl⟩
  generalize htx : trimL (s.data.toList.drop i) = txt
  rw [World.drewN_drewN]
  generalize nq + n2 = q
  have htA2 : wa.cell? ⟨r.parser, 5, none⟩ = some (.bool tbl) := htA.out
  clear c4 c5
  go_wp2_with fail
  cases tbl
  all_goals
    go_quiet (fail)
    rw [World.drewN_drewN]
    generalize q + nq = q2
    have hpB : Hid (IsPS (World.drewN wa q2) g r) := hid (hpA.out.drewN _)
    have hsB : Hid (IsStack (World.drewN wa q2) B r.stack ([] ++ [e0])) := hid (hsA.out.drewN _)
    have hrB : Hid (Blk (World.drewN wa q2) (w.heap.size + 1) 104 #[.int .i64 0, .int .i64 0, .int .i64 0, .string ⟨#[]⟩, .int .u8 0]) := hid (Blk.drewN hrA.out _)
    have hbB : Hid (Below w.heap.size w (World.drewN wa q2)) := hid (below_drewN hbA.out _)
    clear htA2 c0 hpA hsA hlA hrA hbA htA
    generalize World.drewN wa q2 = wb at hpB hsB hrB hbB ⊢
    go_wp2_with fail
    refine (addBlock_top B g r ([] ++ [e0]) _ _ _ (by have := hbB.out.size; simp; omega) (hpB.out.alloc _) (hsB.out.alloc _) (by rw [HD.out]; rfl) (by simp)).mono ?_
    rintro e w3 ⟨rfl, st, hps3, hst3, hown3, hm3⟩
    have hpar3 : Blk w3 wb.heap.size 166 #[.slice none 0 0, .pointer none] := (Blk.new wb 166 #[.slice none 0 0, .pointer none]).mod hm3 (fun h => Or.elim h (fun e => by have := hpB.out.lt; omega) (fun e => by have := ownLt hsB.out.2 e; omega))
    have hr3 : Blk w3 (w.heap.size + 1) 104 #[.int .i64 0, .int .i64 0, .int .i64 0, .string ⟨#[]⟩, .int .u8 0] := (Blk.alloc hrB.out _).mod hm3 (fun h => Or.elim h (Blk.ne_ hrB.out hpB.out (by decide)) (own_ne hsB.out.2 hrB.out (by decide)))
    have hmA : Mod (fun k => k = g ∨ some k = r.stack.v.ownBlock) w w3 := ((Mod.below' hbB.out).alloc _).trans hm3 (fun _ _ h => h)
    have HP3 := hid hps3
    have HS3 := hid hst3
    have HO3 := hid hown3
    have HF3 := hid hpar3
    have HR3 := hid hr3
    have HMA := hid hmA
    have hz3 : wb.heap.size < w3.heap.size := hpar3.lt
    have hzb := hbB.out.size
    have hl1 : w.heap.size + 1 < wb.heap.size := hrB.out.lt
    have hl2 : ¬ wb.heap.size = w.heap.size + 1 := by omega
    have hl3 : ¬ w.heap.size + 1 = wb.heap.size := by omega
    clear hps3 hst3 hown3 hm3 hpar3 hr3 hmA hpB hsB hrB hbB
    have p0 := HF3.out.at_ 0 rfl
    have fp := HF3.out.free
    have hB3 : B ≤ w3.heap.size := by omega
    go_wp2_with (at_builtin; refine wpList_append_lies _ rfl (.tmp 168) (.tmp 170) 33 (by rfl) B 9 is0 _ 1 16 Tryz.underlying33 his hsz0 hsz1 hsz2 rfl (by decide) (.slice none 0 0) 0 [] (by rfl) (World.ownsRow_nil _ _ _ _) ⟨w3.heap.size, 0, none⟩ 1 1 [.string ⟨txt.toArray⟩] (by rfl) rfl (World.news_of_block (heap_alloc_new _ _)) (by intro v hv; simp at hv; subst hv; rfl) (by omega) (by unfold maxLen; omega) (by omega) (by simp; omega) (w3.heap.size + 1) (by simp) ?_
                 intro g2 cap2 w4 hown4 hgr4 hat4 hlt4
                 have hp4 : Blk w4 wb.heap.size 166 #[.slice none 0 0, .pointer none] := Blk.grown (Blk.alloc HF3.out _) hgr4 (by simp [Value.ownBlock])
                 have q1 := hp4.at_ 0 rfl
                 have fq := hp4.free
                 have hr4 : Blk w4 (w.heap.size + 1) 104 #[.int .i64 0, .int .i64 0, .int .i64 0, .string ⟨#[]⟩, .int .u8 0] := Blk.grown (Blk.alloc HR3.out _) hgr4 (by simp [Value.ownBlock])
                 have r0 := hr4.at_ 0 rfl
                 have r1 := hr4.at_ 1 rfl
                 have r2 := hr4.at_ 2 rfl
                 have r3 := hr4.at_ 3 rfl
                 have r4 := hr4.at_ 4 rfl
                 have fr := hr4.free)
    have m4 : Mod (fun _ => False) w3 w4 := Mod.grown ((Mod.refl _ w3).alloc _) hgr4 (fun k hk => by simp [Value.ownBlock] at hk)
    have hps5 := (HP3.out.mod m4 (fun h => h)).far (p := ⟨wb.heap.size, 0, none⟩) (Blk.ne_ HP3.out HF3.out (by decide)) (.slice (some ⟨g2, 0, none⟩) 1 cap2)
    have hst5 := (HS3.out.mod m4 (fun _ _ h => h)).far (p := ⟨wb.heap.size, 0, none⟩) (own_ne HS3.out.2 HF3.out (by decide)) (.slice (some ⟨g2, 0, none⟩) 1 cap2)
    have hr5 := hr4.far (p := ⟨wb.heap.size, 0, none⟩) (Blk.ne_ HR3.out HF3.out (by decide)) (.slice (some ⟨g2, 0, none⟩) 1 cap2)
    have hpar5 : Blk (w4.setCell ⟨wb.heap.size, 0, none⟩ (.slice (some ⟨g2, 0, none⟩) 1 cap2)) wb.heap.size 166 #[.slice (some ⟨g2, 0, none⟩) 1 cap2, .pointer none] := by simpa using Blk.set_ hp4 0 (.slice (some ⟨g2, 0, none⟩) 1 cap2)
    have hown5 := own_far hown4 (p := ⟨wb.heap.size, 0, none⟩) (own_ne hown4 hp4 (by decide)) (.slice (some ⟨g2, 0, none⟩) 1 cap2)
    have m5 := (m4.mono (S' := fun k => k = wb.heap.size) (fun _ _ h => h.elim)).setCell (p := ⟨wb.heap.size, 0, none⟩) (.inl rfl) (.slice (some ⟨g2, 0, none⟩) 1 cap2)
    have HP5 := hid hps5
    have HS5 := hid hst5
    have HR5 := hid hr5
    have HPR5 := hid hpar5
    have HO5 := hid hown5
    have HM5 := hid m5
    clear m4 hps5 hst5 hr5 hpar5 hown5 m5 hown4 hgr4 hat4 hlt4 hp4 q1 fq r0 r1 r2 r3 r4 fr hr4
    generalize World.setCell w4 ⟨wb.heap.size, 0, none⟩ _ = wc at HP5 HS5 HR5 HPR5 HO5 HM5 ⊢
    have hln := hid (line_zero HR5.out)
    have hmy : Hid (Mod (fun k => k = w.heap.size + 1) wc _) := hid ((((((Mod.refl (fun k => k = w.heap.size + 1) wc).setCell (p := ⟨w.heap.size + 1, 0, none⟩) (.inl rfl) (.int .i64 0)).setCell (p := ⟨w.heap.size + 1, 1, none⟩) (.inl rfl) (.int .i64 0)).setCell (p := ⟨w.heap.size + 1, 2, none⟩) (.inl rfl) (.int .i64 0)).setCell (p := ⟨w.heap.size + 1, 3, none⟩) (.inl rfl) (.string ⟨#[]⟩)).setCell (p := ⟨w.heap.size + 1, 4, none⟩) (.inl rfl) (.int .u8 0))
    generalize World.setCell _ ⟨w.heap.size + 1, 4, none⟩ _ = wy at hln hmy ⊢
    have hl4 := hln.out
    have k0 := hl4.at_ 0 rfl
    have k1 := hl4.at_ 1 rfl
    have k2 := hl4.at_ 2 rfl
    have k3 := hl4.at_ 3 rfl
    have k4 := hl4.at_ 4 rfl
    clear hl4
    refine bodyPost_ret (by simp [results, Tryz.results62, go_sem, k0, k1, k2, k3, k4]; try rfl) rfl ?_
    have hmf : Mod (fun k => k = g ∨ some k = r.stack.v.ownBlock) w wy := (HMA.out.trans HM5.out (fun k hk e => by omega)).trans hmy.out (fun k hk e => by omega)
    refine ⟨rfl, ?_⟩
    rw [htx]
    refine ⟨st, wb.heap.size, ⟨some ⟨g2, 0, none⟩, 1, cap2⟩, HP5.out.mod hmy.out (Blk.ne_ HP5.out HR5.out (by decide)), HS5.out.mod hmy.out (fun k hk e => own_ne HS5.out.2 HR5.out (by decide) (by rw [hk, e])), ⟨HPR5.out.mod hmy.out (Blk.ne_ HPR5.out HR5.out (by decide)), own_mod HO5.out hmy.out (fun k hk e => own_ne HO5.out HR5.out (by decide) (by rw [hk, e])), by omega⟩, rfl, ?_, hmf⟩
    intro k hk
    rcases HO3.out k hk with h | h
    · exact .inl h
    · exact .inr (by simp at h; omega)
end Go.Proofs.YtmmijmhdbpldpaaGreatDoor
