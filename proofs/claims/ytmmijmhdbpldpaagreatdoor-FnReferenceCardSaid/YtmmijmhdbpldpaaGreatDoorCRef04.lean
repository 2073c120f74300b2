/- Texts of this proof, joined: Escaping for HTML: the pairs, put in; the law's own function, Code blocks, printed, Inline texts: what they are, and how the text between them is laid out. -/
import Derived.Test.YtmmijmhdbpldpaaGreatDoorCRef03
import Derived.Test.YtmmijmhdbpldpaaGreatDoorCRef01
import Derived.Deep.RegionLaw
import Derived.Deep.AppendLies
import Derived.ArgAppend
import Derived.Shelf.Strings.OnBuilder
import Derived.Ground.NamesProg
import Derived.Test.YtmmijmhdbpldpaaGreatDoorProg
/- Escaping for HTML: the pairs, put in; the law's own function. -/


namespace Go.Proofs.YtmmijmhdbpldpaaGreatDoor
open Go.RowKit
/-- What stands for a byte in HTML. -/
def esc1 (c : UInt8) : List UInt8 := if c = 34 then [38, 113, 117, 111, 116, 59] else if c = 38 then [38, 97, 109, 112, 59] else if c = 60 then [38, 108, 116, 59] else if c = 62 then [38, 103, 116, 59] else [c]
def esc (l : List UInt8) : List UInt8 := l.flatMap esc1
theorem esc_snoc (l : List UInt8) (c : UInt8) : esc (l ++ [c]) = esc l ++ esc1 c := by simp [esc]
theorem esc1_len (c : UInt8) : (esc1 c).length ≤ 6 := by
  unfold esc1
  repeat' split
  all_goals simp
theorem esc_len (l : List UInt8) : (esc l).length ≤ 6 * l.length := by
  induction l with
  | nil => simp [esc]
  | cons a l ih =>
    have := esc1_len a
    simp only [esc, List.flatMap_cons, List.length_append, List.length_cons] at ih ⊢
    omega
theorem esc_take (l : List UInt8) (i : Nat) (h : i < l.length) : esc (l.take (i + 1)) = esc (l.take i) ++ esc1 (l[i]'h) := by
  rw [List.take_add_one, List.getElem?_eq_getElem h]
  exact esc_snoc _ _
theorem extract_one (s : ByteArray) (i : Nat) (h : i < s.size) : s.extract i (i + 1) = ⟨#[s.data.toList[i]'(by rw [← Lib.size_eq]; exact h)]⟩ := by
  have hi : i < s.data.toList.length := by rw [← Lib.size_eq]; exact h
  rw [Lib.extract_eq, List.drop_eq_getElem_cons hi, show i + 1 - i = 1 from by omega]
  rfl
theorem esc1_other {c : UInt8} {z : Int} (hz : z = (c.toNat : Int)) (h34 : ¬ z = 34) (h38 : ¬ z = 38) (h60 : ¬ z = 60) (h62 : ¬ z = 62) : esc1 c = [c] := by
  unfold esc1
  rw [if_neg (fun e => h34 (by rw [hz, e]; rfl)), if_neg (fun e => h38 (by rw [hz, e]; rfl)), if_neg (fun e => h60 (by rw [hz, e]; rfl)), if_neg (fun e => h62 (by rw [hz, e]; rfl))]
def pairsC : Array Value := #[.string ⟨#[34]⟩, .string ⟨#[38, 113, 117, 111, 116, 59]⟩, .string ⟨#[38]⟩, .string ⟨#[38, 97, 109, 112, 59]⟩, .string ⟨#[60]⟩, .string ⟨#[38, 108, 116, 59]⟩, .string ⟨#[62]⟩, .string ⟨#[38, 103, 116, 59]⟩]
set_option maxRecDepth 20000 in
theorem htmlEscaper_any (w : World) : Calls Tryz.prog 257 #[] w fun e w' => ∃ n, e = .returned (.slice (some ⟨n, 0, none⟩) 8 8) ∧ w.heap.size ≤ n ∧ Blk w' n 9 pairsC ∧ Below w.heap.size w w' := by
  go_enter Tryz.func257, Tryz.ntmps257
  go_wp2
  go_ret
  exact ⟨_, rfl, Nat.le_refl _, Blk.new _ _ _, (Below.refl _ _).alloc (Nat.le_refl _) _⟩
/-- One byte written into a buffer. -/
theorem write_byte (B b : Nat) (bs : List UInt8) (c : UInt8) (w : World) (h : IsBuf B b bs w) (hB : B ≤ w.heap.size) (_ : bs.length + 1 ≤ 20000000) :
    Calls Tryz.prog 259 #[.pointer (some ⟨b, 0, none⟩), .int .u8 (c.toNat : Int)] w fun e w' => e = .returned .nilIface ∧ IsBuf B b (bs ++ [c]) w' ∧ Below B w w' ∧ Kept b w w' := by
  have hbl : (Lib.byteCells bs).length = bs.length := Lib.byteCells_length _
  refine Calls.mono (Any.Buffer_WriteByte_kept Tryz.layWB B b (Lib.byteCells bs) (c.toNat : Int) w h hB (Lib.byteCells_one _) (by rw [hbl]; omega)) ?_
  rintro e w' ⟨rfl, i, b1, k⟩
  refine ⟨rfl, ?_, b1, k⟩
  unfold IsBuf
  rw [Lib.byteCells_append]
  exact i
def PairsR (B b : Nat) (bs : List UInt8) (s : ByteArray) (w : World) (t6 : Value) (wr : World) : Prop :=
  ∃ i : Nat, i ≤ s.size ∧ t6 = .int .i64 i ∧ IsBuf B b (bs ++ esc (s.data.toList.take i)) wr ∧ Below B w wr ∧ Kept b w wr
set_option maxRecDepth 20000 in
set_option maxHeartbeats 4000000 in
theorem pairs_write (B b n : Nat) (bs : List UInt8) (s : ByteArray) (w : World) (hn : Blk w n 9 pairsC) (hbuf : IsBuf B b bs w) (hB : B ≤ w.heap.size) (hs : s.size ≤ 100000) (hl : bs.length ≤ 1000000) :
    Calls Tryz.prog 258 #[.slice (some ⟨n, 0, none⟩) 8 8, .pointer (some ⟨b, 0, none⟩), .string s] w (PrintP B b bs (esc s.data.toList) w) := by
  have hb := get_bt s
  have e34 : ∀ h, ((((ByteArray.mk #[34])[0]'h).toNat : Nat) : Int) = 34 := fun _ => rfl
  have e38 : ∀ h, ((((ByteArray.mk #[38])[0]'h).toNat : Nat) : Int) = 38 := fun _ => rfl
  have e60 : ∀ h, ((((ByteArray.mk #[60])[0]'h).toNat : Nat) : Int) = 60 := fun _ => rfl
  have e62 : ∀ h, ((((ByteArray.mk #[62])[0]'h).toNat : Nat) : Int) = 62 := fun _ => rfl
  have HL := hid (Lib.size_eq s)
  have HBUF := hid hbuf
  have hnb : n ≠ b := by
    obtain ⟨cs, hcs⟩ := hbuf.blk
    exact Blk.ne_ hn hcs (by decide)
  have HN := hid hn
  clear hbuf hn
  go_enter Tryz.func258, Tryz.ntmps258
  go_wp2_with fail
  go_step3
  go_wp2_with fail
  go_step3
  go_wp2_with fail
  go_loopw [6] (fun t6 wr => PairsR B b bs s w t6 wr) (fun t6 _ => s.size - (intOf t6).toNat)
  case atStart => exact ⟨0, Nat.zero_le _, rfl, by simpa [esc] using HBUF.out, Below.refl _ _, Lib.OthersKept.refl _ _ _⟩
  case round =>
    obtain ⟨i, hi, rfl, hbf, hbel, hk⟩ := hrel
    by_cases hlt : i < s.size
    · have hll : i < s.data.toList.length := by rw [← HL.out]; exact hlt
      have het := esc_take _ i hll
      have hbt : bt s i = ((s.data.toList[i]'hll).toNat : Int) := by unfold bt; rw [dif_pos hlt]; rfl
      have hel := esc_len (s.data.toList.take i)
      have htl : (s.data.toList.take i).length = i := by rw [List.length_take]; omega
      rw [htl] at hel
      have HET := hid het
      clear het htl
      generalize esc (s.data.toList.take i) = ls at HET hel hbf ⊢
      generalize s.data.toList[i]'hll = c at HET hbt
      have hc := fun (n : UInt8) (h : bt s i = (n.toNat : Int)) => (UInt8.toNat_inj.1 (by omega) : c = n)
      have HC := hid hc
      have hcells := Blk.kept HN.out hk hnb (by decide)
      unfold pairsC at hcells
      have q0 := hcells.at_ 0 rfl
      have q1 := hcells.at_ 1 rfl
      have q2 := hcells.at_ 2 rfl
      have q3 := hcells.at_ 3 rfl
      have q4 := hcells.at_ 4 rfl
      have q5 := hcells.at_ 5 rfl
      have q6 := hcells.at_ 6 rfl
      have q7 := hcells.at_ 7 rfl
      have hBw : B ≤ wr.heap.size := Nat.le_trans hB hbel.size
      have HBF := hid hbf
      have HBL := hid hbel
      have HK := hid hk
      have HBT := hid hbt
      clear hc hcells hbf hbel hk hbt
      by_cases h34 : bt s i = 34
      · have he := hid (show esc1 c = [38, 113, 117, 111, 116, 59] by rw [HC.out 34 h34]; rfl)
        go_wp2_with fail
        refine wp_loop_rounds 1 ?_
        rw [rounds_succ]
        go_wp2_with fail
        go_quiet (fail)
        go_wp2_with fail
        refine (write_str B b (bs ++ ls) _ _ ?_ ?_ ?_).mono ?_
        · exact HBF.out
        · exact hBw
        · rw [List.length_append]
          show bs.length + ls.length + 6 ≤ 2000000
          omega
        rintro e w3 ⟨rfl, h3, b3, k3⟩
        have HB3 := hid h3
        have HL3 := hid b3
        have HK3 := hid k3
        clear h3 b3 k3
        go_wp2_with fail
        go_roundw
        case rel => exact ⟨i + 1, by omega, by go_num, by rw [HET.out, he.out, ← List.append_assoc]; exact HB3.out, (below_drewN HBL.out _).trans HL3.out, Lib.OthersKept.trans HK.out (show Lib.OthersKept _ _ wr w3 from HK3.out)⟩
        case measure => simp [intOf]; omega
      by_cases h38 : bt s i = 38
      · have he := hid (show esc1 c = [38, 97, 109, 112, 59] by rw [HC.out 38 h38]; rfl)
        have b34 : (bt s i == 34) = false := by simpa using h34
        go_wp2_with fail
        refine wp_loop_rounds 2 ?_
        rw [rounds_succ]
        go_wp2_with fail
        go_quiet (fail)
        go_wp2_with fail
        rw [rounds_succ]
        go_wp2_with fail
        go_quiet (fail)
        go_wp2_with fail
        refine (write_str B b (bs ++ ls) _ _ ?_ ?_ ?_).mono ?_
        · exact HBF.out
        · exact hBw
        · rw [List.length_append]
          show bs.length + ls.length + 5 ≤ 2000000
          omega
        rintro e w3 ⟨rfl, h3, b3, k3⟩
        have HB3 := hid h3
        have HL3 := hid b3
        have HK3 := hid k3
        clear h3 b3 k3
        go_wp2_with fail
        go_roundw
        case rel => exact ⟨i + 1, by omega, by go_num, by rw [HET.out, he.out, ← List.append_assoc]; exact HB3.out, (below_drewN HBL.out _).trans HL3.out, Lib.OthersKept.trans HK.out (show Lib.OthersKept _ _ wr w3 from HK3.out)⟩
        case measure => simp [intOf]; omega
      by_cases h60 : bt s i = 60
      · have he := hid (show esc1 c = [38, 108, 116, 59] by rw [HC.out 60 h60]; rfl)
        have b34 : (bt s i == 34) = false := by simpa using h34
        have b38 : (bt s i == 38) = false := by simpa using h38
        go_wp2_with fail
        refine wp_loop_rounds 3 ?_
        rw [rounds_succ]
        go_wp2_with fail
        go_quiet (fail)
        go_wp2_with fail
        rw [rounds_succ]
        go_wp2_with fail
        go_quiet (fail)
        go_wp2_with fail
        rw [rounds_succ]
        go_wp2_with fail
        go_quiet (fail)
        go_wp2_with fail
        refine (write_str B b (bs ++ ls) _ _ ?_ ?_ ?_).mono ?_
        · exact HBF.out
        · exact hBw
        · rw [List.length_append]
          show bs.length + ls.length + 4 ≤ 2000000
          omega
        rintro e w3 ⟨rfl, h3, b3, k3⟩
        have HB3 := hid h3
        have HL3 := hid b3
        have HK3 := hid k3
        clear h3 b3 k3
        go_wp2_with fail
        go_roundw
        case rel => exact ⟨i + 1, by omega, by go_num, by rw [HET.out, he.out, ← List.append_assoc]; exact HB3.out, (below_drewN HBL.out _).trans HL3.out, Lib.OthersKept.trans HK.out (show Lib.OthersKept _ _ wr w3 from HK3.out)⟩
        case measure => simp [intOf]; omega
      by_cases h62 : bt s i = 62
      · have he := hid (show esc1 c = [38, 103, 116, 59] by rw [HC.out 62 h62]; rfl)
        have b34 : (bt s i == 34) = false := by simpa using h34
        have b38 : (bt s i == 38) = false := by simpa using h38
        have b60 : (bt s i == 60) = false := by simpa using h60
        go_wp2_with fail
        refine wp_loop_rounds 4 ?_
        rw [rounds_succ]
        go_wp2_with fail
        go_quiet (fail)
        go_wp2_with fail
        rw [rounds_succ]
        go_wp2_with fail
        go_quiet (fail)
        go_wp2_with fail
        rw [rounds_succ]
        go_wp2_with fail
        go_quiet (fail)
        go_wp2_with fail
        rw [rounds_succ]
        go_wp2_with fail
        go_quiet (fail)
        go_wp2_with fail
        refine (write_str B b (bs ++ ls) _ _ ?_ ?_ ?_).mono ?_
        · exact HBF.out
        · exact hBw
        · rw [List.length_append]
          show bs.length + ls.length + 4 ≤ 2000000
          omega
        rintro e w3 ⟨rfl, h3, b3, k3⟩
        have HB3 := hid h3
        have HL3 := hid b3
        have HK3 := hid k3
        clear h3 b3 k3
        go_wp2_with fail
        go_roundw
        case rel => exact ⟨i + 1, by omega, by go_num, by rw [HET.out, he.out, ← List.append_assoc]; exact HB3.out, (below_drewN HBL.out _).trans HL3.out, Lib.OthersKept.trans HK.out (show Lib.OthersKept _ _ wr w3 from HK3.out)⟩
        case measure => simp [intOf]; omega
      · have he := hid (esc1_other HBT.out h34 h38 h60 h62)
        have b34 : (bt s i == 34) = false := by simpa using h34
        have b38 : (bt s i == 38) = false := by simpa using h38
        have b60 : (bt s i == 60) = false := by simpa using h60
        have b62 : (bt s i == 62) = false := by simpa using h62
        go_wp2_with fail
        refine wp_loop_rounds 5 ?_
        rw [rounds_succ]
        go_wp2_with fail
        go_quiet (fail)
        go_wp2_with fail
        rw [rounds_succ]
        go_wp2_with fail
        go_quiet (fail)
        go_wp2_with fail
        rw [rounds_succ]
        go_wp2_with fail
        go_quiet (fail)
        go_wp2_with fail
        rw [rounds_succ]
        go_wp2_with fail
        go_quiet (fail)
        go_wp2_with fail
        rw [rounds_succ]
        go_wp2_with fail
        rw [HBT.out]
        refine (write_byte B b (bs ++ ls) c _ ?_ ?_ ?_).mono ?_
        · exact HBF.out
        · exact hBw
        · rw [List.length_append]
          omega
        rintro e w3 ⟨rfl, h3, b3, k3⟩
        have HB3 := hid h3
        have HL3 := hid b3
        have HK3 := hid k3
        clear h3 b3 k3
        go_wp2_with fail
        go_roundw
        case rel => exact ⟨i + 1, by omega, by go_num, by rw [HET.out, he.out, ← List.append_assoc]; exact HB3.out, (below_drewN HBL.out _).trans HL3.out, Lib.OthersKept.trans HK.out (show Lib.OthersKept _ _ wr w3 from HK3.out)⟩
        case measure => simp [intOf]; omega
    · obtain rfl : i = s.size := by omega
      have ht : s.data.toList.take s.size = s.data.toList := List.take_of_length_le (by rw [HL.out]; exact Nat.le_refl _)
      rw [ht] at hbf
      have HBF := hid hbf
      have HBL := hid hbel
      have HK := hid hk
      clear ht hbf hbel hk
      go_wp2_with fail
      all_goals (try rw [Exit.noGoto_normal])
      go_end0
      exact ⟨rfl, HBF.out, HBL.out, HK.out⟩
set_option maxRecDepth 20000 in
set_option maxHeartbeats 800000 in
theorem replace_any (n : Nat) (s : ByteArray) (w : World) (hn : Blk w n 9 pairsC) (hs : s.size ≤ 100000) :
    Calls Tryz.prog 265 #[.slice (some ⟨n, 0, none⟩) 8 8, .string s] w fun e w' => e = .returned (.string ⟨(esc s.data.toList).toArray⟩) ∧ Below w.heap.size w w' := by
  have hw := hid (pairs_write w.heap.size w.heap.size n [] s (w.alloc (.cells #[.slice none 0 0, .int .i64 0, .int .i8 0] 73)) (Blk.alloc hn _) (Lib.fresh_isBuffer _ _ _) (by simp) hs (by simp))
  clear hn
  go_enter Tryz.func265, Tryz.ntmps265
  go_wp2_with fail
  refine hw.out.mono ?_
  rintro e w1 ⟨rfl, hb1, hbl1, _⟩
  have HB1 := hid hb1
  have HBL1 := hid hbl1
  clear hb1 hbl1
  go_wp2_with fail
  refine (buf_str w.heap.size w.heap.size _ _ HB1.out).mono ?_
  rintro e w2 ⟨rfl, n2, rfl⟩
  go_wp2_with fail
  go_ret
  exact ⟨rfl, below_drewN (((Below.refl _ _).alloc (Nat.le_refl _) _).trans HBL1.out) n2⟩
end Go.Proofs.YtmmijmhdbpldpaaGreatDoor
/- Code blocks, printed. -/


namespace Go.Proofs.YtmmijmhdbpldpaaGreatDoor
open Go.RowKit
def codeHead : List UInt8 := [60, 112, 114, 101, 62, 60, 99, 111, 100, 101, 62]
def codeTail : List UInt8 := [60, 47, 99, 111, 100, 101, 62, 60, 47, 112, 114, 101, 62, 10]
/-- What a block of code without an info string is printed as. -/
def codeOut (ls : List (List UInt8)) : List UInt8 := codeHead ++ ls.flatMap (fun l => esc l ++ [10]) ++ codeTail
/-- Something that is neither a space nor a tab. -/
def Ink (s : ByteArray) : Prop := ∃ k, k < s.size ∧ bt s k ≠ 32 ∧ bt s k ≠ 9
def trimR (l : List UInt8) : List UInt8 := (l.reverse.dropWhile isST).reverse
theorem trimR_of (m : List UInt8) (j : Nat) (hj : j ≤ m.length) (h1 : ∀ k c, j ≤ k → m[k]? = some c → isST c = true) (h2 : ∀ i c, j = i + 1 → m[i]? = some c → isST c = false) : trimR m = m.take j := by
  unfold trimR
  rw [drop_of_while isST m.reverse (m.length - j), List.drop_reverse, List.reverse_reverse, show m.length - (m.length - j) = j from by omega]
  · intro k c hk hc
    rw [List.getElem?_reverse (by omega)] at hc
    exact h1 _ c (by omega) hc
  · intro c hc
    cases j with
    | zero => rw [List.getElem?_eq_none (by rw [List.length_reverse]; omega)] at hc; cases hc
    | succ i =>
      rw [List.getElem?_reverse (by omega), show m.length - 1 - (m.length - (i + 1)) = i from by omega] at hc
      exact h2 i c rfl hc
theorem trimR_nil (m : List UInt8) (h : trimR m = []) : ∀ x ∈ m, isST x = true := by
  unfold trimR at h
  intro x hx
  exact while_nil isST m.reverse (by simpa using h) x (by simpa using hx)
theorem trimL_head (l : List UInt8) (c : UInt8) (m : List UInt8) (h : trimL l = c :: m) : isST c = false := by
  induction l with
  | nil => simp [trimL] at h
  | cons a l ih =>
    unfold trimL at h
    rw [List.dropWhile_cons] at h
    by_cases ha : isST a = true
    · rw [if_pos ha] at h; exact ih h
    · rw [if_neg ha] at h
      simp only [List.cons.injEq] at h
      rw [← h.1]
      simpa using ha
/-- A line with ink is not trimmed to nothing. -/
theorem trim_ink (l : List UInt8) (h : ∃ c ∈ l, isST c = false) : trimR (trimL l) ≠ [] := by
  intro h0
  have h1 := trimR_nil _ h0
  obtain ⟨c, hc, hcs⟩ := h
  cases hm : trimL l with
  | nil =>
    have := while_nil isST l hm c hc
    rw [hcs] at this; cases this
  | cons a m =>
    have h2 := trimL_head l a m hm
    have := h1 a (by rw [hm]; exact List.mem_cons_self ..)
    rw [h2] at this; cases this
def TST1 (s : ByteArray) (t3 : Value) : Prop := ∃ i : Nat, i ≤ s.size ∧ t3 = .int .i64 i ∧ ∀ k c, k < i → s.data.toList[k]? = some c → isST c = true
def TST2 (s : ByteArray) (t4 : Value) : Prop := ∃ j : Nat, j ≤ s.size ∧ t4 = .int .i64 j ∧ ∀ k c, j ≤ k → s.data.toList[k]? = some c → isST c = true
set_option maxHeartbeats 1600000 in
theorem trimST_any (s : ByteArray) (w : World) (hs : s.size ≤ 100000) :
    Calls Tryz.prog 64 #[.string s] w fun e w' => e = .returned (.string ⟨(trimR (trimL s.data.toList)).toArray⟩) ∧ w = w' := by
  have hb := get_bt
  have HL := hid (Lib.size_eq s)
  have second : ∀ i, i ≤ s.size → (∀ k c, k < i → s.data.toList[k]? = some c → isST c = true) → (∀ c, s.data.toList[i]? = some c → isST c = false) → s.extract i s.size = ⟨(trimL s.data.toList).toArray⟩ ∧ (trimL s.data.toList).length = s.size - i := by
    intro i hi h1 h2
    have h3 : trimL s.data.toList = s.data.toList.drop i := drop_of_while isST _ i h1 h2
    exact ⟨by rw [extract_end, h3], by rw [h3, List.length_drop, HL.out]⟩
  have SEC := hid second
  clear second
  go_enter Tryz.func64, Tryz.ntmps64
  go_wp2
  go_loop [3] (fun t3 => TST1 s t3) (fun t3 => s.size - (intOf t3).toNat)
  case atStart => exact ⟨0, Nat.zero_le _, rfl, fun k c h => absurd h (by omega)⟩
  case round =>
    obtain ⟨i, hi, rfl, hsp⟩ := hrel
    have HSP := hid hsp
    clear hsp
    have step : ∀ c, s.data.toList[i]? = some c → isST c = true → ∀ k d, k < i + 1 → s.data.toList[k]? = some d → isST d = true := by
      intro c hc hst j d hj hd
      rcases Nat.lt_or_ge j i with h1 | h1
      · exact HSP.out j d h1 hd
      · obtain rfl : j = i := by omega
        rw [hc] at hd; cases hd; exact hst
    have ST := hid step
    clear step
    by_cases hgo : i < s.size ∧ (bt s i = 32 ∨ bt s i = 9)
    · obtain ⟨hlt, hgo⟩ := hgo
      obtain ⟨c, hc, hbt⟩ := bt_at s hlt
      have HC := hid hc
      have HB := hid hbt
      clear hc hbt
      rcases hgo with h1 | h1
      · go_wp2
        go_round
        case rel => exact ⟨i + 1, by omega, by go_num, ST.out c HC.out (isST_of (.inl (HB.out ▸ h1)))⟩
        case measure => simp [intOf]; omega
      · go_wp2
        go_round
        case rel => exact ⟨i + 1, by omega, by go_num, ST.out c HC.out (isST_of (.inr (HB.out ▸ h1)))⟩
        case measure => simp [intOf]; omega
    · have hend : ∀ c, s.data.toList[i]? = some c → isST c = false := by
        intro c hc
        have hlt : i < s.size := by
          rw [HL.out]
          exact (List.getElem?_eq_some_iff.1 hc).1
        obtain ⟨d, hd, hbt⟩ := bt_at s hlt
        rw [hc] at hd; cases hd
        exact isST_not (fun e => hgo ⟨hlt, .inl (hbt.trans e)⟩) (fun e => hgo ⟨hlt, .inr (hbt.trans e)⟩)
      obtain ⟨hex, hml⟩ := SEC.out i hi HSP.out hend
      have HEX := hid hex
      have HML := hid hml
      have hz : (s.extract i s.size).size = s.size - i := by simp
      have HZ := hid hz
      have HGO := hid hgo
      clear hgo hend hex hml hz
      have b1 : i < s.size → (bt s i == 32) = false := fun h => by simpa using fun e => HGO.out ⟨h, .inl e⟩
      have b2 : i < s.size → (bt s i == 9) = false := fun h => by simpa using fun e => HGO.out ⟨h, .inr e⟩
      have B1 := hid b1
      have B2 := hid b2
      clear b1 b2
      by_cases hlt : i < s.size
      · have b1 := B1.out hlt
        have b2 := B2.out hlt
        go_wp2
        clear b1 b2
        generalize s.extract i s.size = s2 at HEX HZ ⊢
        have hz2 := HZ.out
        have HL2 := hid (Lib.size_eq s2)
        have hz3 : s2.size ≤ 100000 := by omega
        clear hlt
        go_loop [4] (fun t4 => TST2 s2 t4) (fun t4 => (intOf t4).toNat)
        case atStart => exact ⟨s2.size, Nat.le_refl _, by rw [HZ.out], fun k c h1 h2 => by
          rw [List.getElem?_eq_none (by rw [← HL2.out]; omega)] at h2
          cases h2⟩
        case round =>
          obtain ⟨j, hj, rfl, hst⟩ := hrel
          have HST := hid hst
          clear hst
          have hres : (∀ q c, j = q + 1 → s2.data.toList[q]? = some c → isST c = false) → s2.extract 0 j = ⟨(trimR (trimL s.data.toList)).toArray⟩ := by
            intro h
            have e1 : s2.data.toList = trimL s.data.toList := by rw [HEX.out]
            rw [← e1, trimR_of s2.data.toList j (by rw [← HL2.out]; exact hj) HST.out h, Lib.extract_eq]
            simp
          have HRES := hid hres
          clear hres hz2
          cases j with
          | zero =>
            have hr := hid (HRES.out (fun q c h => by omega))
            go_wp2
            go_ret
            exact ⟨ret_str (by rw [← hr.out]; simp), rfl⟩
          | succ m =>
            have hm : m < s2.size := by omega
            obtain ⟨c, hc, hbt⟩ := bt_at s2 hm
            have HC := hid hc
            have HB := hid hbt
            clear hc hbt
            have stp : isST c = true → ∀ k d, m ≤ k → s2.data.toList[k]? = some d → isST d = true := fun hs k d hk hd => by
              rcases Nat.lt_or_ge m k with h1 | h1
              · exact HST.out k d h1 hd
              · obtain rfl : k = m := by omega
                rw [HC.out] at hd; cases hd; exact hs
            have STP := hid stp
            clear stp
            by_cases h32 : bt s2 m = 32
            · go_wp2
              go_round
              case rel => exact ⟨m, by omega, by go_num, STP.out (isST_of (.inl (HB.out ▸ h32)))⟩
              case measure => simp [intOf]
            by_cases h9 : bt s2 m = 9
            · go_wp2
              go_round
              case rel => exact ⟨m, by omega, by go_num, STP.out (isST_of (.inr (HB.out ▸ h9)))⟩
              case measure => simp [intOf]
            have b1 : (bt s2 m == 32) = false := by simpa using h32
            have b2 : (bt s2 m == 9) = false := by simpa using h9
            have hr := hid (HRES.out (fun q d h hd => by
              obtain rfl : q = m := by omega
              rw [HC.out] at hd; cases hd
              exact isST_not (fun e => h32 (HB.out.trans e)) (fun e => h9 (HB.out.trans e))))
            go_wp2
            go_ret
            exact ⟨ret_str hr.out, rfl⟩
      · go_wp2
        generalize s.extract i s.size = s2 at HEX HZ ⊢
        have hz2 := HZ.out
        have HL2 := hid (Lib.size_eq s2)
        have hz3 : s2.size ≤ 100000 := by omega
        clear hlt
        go_loop [4] (fun t4 => TST2 s2 t4) (fun t4 => (intOf t4).toNat)
        case atStart => exact ⟨s2.size, Nat.le_refl _, by rw [HZ.out], fun k c h1 h2 => by
          rw [List.getElem?_eq_none (by rw [← HL2.out]; omega)] at h2
          cases h2⟩
        case round =>
          obtain ⟨j, hj, rfl, hst⟩ := hrel
          have HST := hid hst
          clear hst
          have hres : (∀ q c, j = q + 1 → s2.data.toList[q]? = some c → isST c = false) → s2.extract 0 j = ⟨(trimR (trimL s.data.toList)).toArray⟩ := by
            intro h
            have e1 : s2.data.toList = trimL s.data.toList := by rw [HEX.out]
            rw [← e1, trimR_of s2.data.toList j (by rw [← HL2.out]; exact hj) HST.out h, Lib.extract_eq]
            simp
          have HRES := hid hres
          clear hres hz2
          cases j with
          | zero =>
            have hr := hid (HRES.out (fun q c h => by omega))
            go_wp2
            go_ret
            exact ⟨ret_str (by rw [← hr.out]; simp), rfl⟩
          | succ m =>
            have hm : m < s2.size := by omega
            obtain ⟨c, hc, hbt⟩ := bt_at s2 hm
            have HC := hid hc
            have HB := hid hbt
            clear hc hbt
            have stp : isST c = true → ∀ k d, m ≤ k → s2.data.toList[k]? = some d → isST d = true := fun hs k d hk hd => by
              rcases Nat.lt_or_ge m k with h1 | h1
              · exact HST.out k d h1 hd
              · obtain rfl : k = m := by omega
                rw [HC.out] at hd; cases hd; exact hs
            have STP := hid stp
            clear stp
            by_cases h32 : bt s2 m = 32
            · go_wp2
              go_round
              case rel => exact ⟨m, by omega, by go_num, STP.out (isST_of (.inl (HB.out ▸ h32)))⟩
              case measure => simp [intOf]
            by_cases h9 : bt s2 m = 9
            · go_wp2
              go_round
              case rel => exact ⟨m, by omega, by go_num, STP.out (isST_of (.inr (HB.out ▸ h9)))⟩
              case measure => simp [intOf]
            have b1 : (bt s2 m == 32) = false := by simpa using h32
            have b2 : (bt s2 m == 9) = false := by simpa using h9
            have hr := hid (HRES.out (fun q d h hd => by
              obtain rfl : q = m := by omega
              rw [HC.out] at hd; cases hd
              exact isST_not (fun e => h32 (HB.out.trans e)) (fun e => h9 (HB.out.trans e))))
            go_wp2
            go_ret
            exact ⟨ret_str hr.out, rfl⟩
theorem IsBuf.old {B b : Nat} {l : List UInt8} {w w' : World} (h : IsBuf B b l w) (hb : Below w.heap.size w w') : IsBuf B b l w' := by
  obtain ⟨h0, v, lr, h1, h2, h3⟩ := h
  have hm : Mod (fun _ => False) w w' := Mod.below' hb
  exact ⟨h0, v, lr, (Blk.mod (t := 73) h1 hm (fun x => x)), own_mod h2 hm (fun _ _ x => x), h3⟩
theorem own_form {w : World} {base : Nat} {e : TypeId} {size n : Nat} {v : Value} {xs : List Value} (h : w.ownsRow base e size v n xs) (hn : 0 < n) : ∃ g cap, v = .slice (some ⟨g, 0, none⟩) n cap ∧ base ≤ g ∧ g < w.heap.size := by
  rcases h.2 with ⟨_, h0⟩ | ⟨g, cap, cur, hv, hb, hg, _⟩
  · omega
  · exact ⟨g, cap, hv, hb, Blk.lt hg⟩
/-- What a loop over lines has printed. -/
def CodeR (B b : Nat) (pre : List UInt8) (n : Nat) (ls : List (List UInt8)) (w : World) (t : Value) (wr : World) : Prop :=
  ∃ i : Nat, i ≤ n ∧ t = .int .i64 i ∧ IsBuf B b (pre ++ (ls.take i).flatMap (fun l => esc l ++ [10])) wr ∧ Below B w wr ∧ Kept b w wr
def lineV (l : List UInt8) : Value := .string ⟨l.toArray⟩
/-- An indented block's node: no fence, no info string, lines ls. -/
def IsCode (w : World) (cb base : Nat) (ls : List (List UInt8)) : Prop :=
  ∃ (sl el : Int) (v : Sl), Blk w cb 369 #[.int .i64 sl, .int .i64 el, .string ⟨#[]⟩, .string ⟨#[]⟩, v.v] ∧ w.ownsRow base 9 1 v.v v.n (ls.map lineV)
theorem code_len (L : List (List UInt8)) (i : Nat) (h : ∀ l ∈ L, l.length ≤ 300) : ((L.take i).flatMap (fun l => esc l ++ [10])).length ≤ 2000 * i := by
  induction i with
  | zero => simp
  | succ i ih =>
    rw [List.take_add_one, List.flatMap_append, List.length_append]
    cases hg : L[i]? with
    | none =>
      simp only [Option.toList_none, List.flatMap_nil, List.length_nil]
      omega
    | some l =>
      have h1 := h l (List.mem_of_getElem? hg)
      have h2 := esc_len l
      simp only [Option.toList_some, List.flatMap_cons, List.flatMap_nil, List.append_nil, List.length_append, List.length_cons, List.length_nil]
      omega
set_option maxRecDepth 20000 in
set_option maxHeartbeats 4000000 in
theorem codeHTML_any (B b cb base : Nat) (ls : List (List UInt8)) (last : List UInt8) (w : World) (hcode : IsCode w cb base (ls ++ [last])) (hbuf : IsBuf B b [] w) (hB : B ≤ w.heap.size) (hn : ls.length ≤ 100) (hlen : ∀ l ∈ ls ++ [last], l.length ≤ 300) (hink : ∃ c ∈ last, isST c = false) :
    Calls Tryz.prog 335 #[.pointer (some ⟨cb, 0, none⟩), .pointer (some ⟨b, 0, none⟩)] w (PrintP B b [] (codeOut (ls ++ [last])) w) := by
  obtain ⟨sl, el, v, hblk, hrow⟩ := hcode
  have hvn : v.n = ls.length + 1 := by have := hrow.1; simp at this; omega
  obtain ⟨ra, rn, rc⟩ := v
  dsimp only at hvn
  subst hvn
  obtain ⟨rb, rcap, hra, hBr, hrlt⟩ := own_form hrow (by simp)
  simp only [Sl.v, Value.slice.injEq] at hra
  obtain ⟨rfl, _, rfl⟩ := hra
  obtain ⟨bcs, hbb⟩ := hbuf.blk
  have hcb : cb ≠ b := Blk.ne_ hblk hbb (by decide)
  have hrb := own_ne hrow hbb (by decide)
  have HBUF := hid hbuf
  have HBLK := hid hblk
  have HROW := hid hrow
  have HINK := hid hink
  have HLEN := hid hlen
  clear hbuf hblk hrow hink hlen hbb
  go_enter Tryz.func335, Tryz.ntmps335
  go_wp2_with fail
  refine (buf_len B b [] _ HBUF.out).mono ?_
  rintro e w1 ⟨rfl, n1, rfl⟩
  go_wp2_with fail
  refine (write_str B b [] _ _ ?_ ?_ ?_).mono ?_
  · exact HBUF.out
  · exact hB
  · show 0 + 10 ≤ 2000000
    omega
  rintro e w2 ⟨rfl, h2, b2, k2⟩
  have hk2 : Kept b w w2 := k2
  have hb2 : Below B w w2 := (below_drewN (Below.refl _ _) n1).trans b2
  have hi2 : IsBuf B b [60, 112, 114, 101, 62, 60, 99, 111, 100, 101] w2 := h2
  have d3 := (HBLK.out.kept hk2 hcb (by decide)).at_ 3 rfl
  have HK2 := hid hk2
  have HB2 := hid hb2
  have HI2 := hid hi2
  clear h2 b2 k2 hk2 hb2 hi2
  go_wp2_with fail
  refine (write_str B b [60, 112, 114, 101, 62, 60, 99, 111, 100, 101] _ _ ?_ ?_ ?_).mono ?_
  · exact HI2.out
  · exact Nat.le_trans hB HB2.out.size
  · show 10 + 1 ≤ 2000000
    omega
  rintro e w3 ⟨rfl, h3, b3, k3⟩
  have hk3 : Kept b w w3 := Lib.OthersKept.trans HK2.out k3
  have hb3 : Below B w w3 := HB2.out.trans b3
  have hi3 : IsBuf B b codeHead w3 := h3
  have hblk3 := HBLK.out.kept hk3 hcb (by decide)
  have hrow3 := own_kept HROW.out hk3 hrb (by decide)
  have d2 := hblk3.at_ 2 rfl
  have d4 : w3.cell? ⟨cb, 4, none⟩ = some (.slice (some ⟨rb, 0, none⟩) (ls.length + 1) rc) := hblk3.at_ 4 rfl
  have r0 : w3.cell? ⟨rb, ls.length, none⟩ = some (lineV last) := by
    rw [World.ownsRow.cellAt hrow3 _ (by simp)]
    simp
  unfold lineV at r0
  have hlast : last.length ≤ 300 := HLEN.out last (by simp)
  have hsz : (ByteArray.mk last.toArray).size ≤ 100000 := bsz (by omega)
  have HK3 := hid hk3
  have HB3 := hid hb3
  have HI3 := hid hi3
  have HBK3 := hid hblk3
  have HRW3 := hid hrow3
  clear h3 b3 k3 hk3 hb3 hi3 hblk3 hrow3
  have hl1 : (0 : Int) ≤ (ls.length : Int) := by omega
  go_wp2_with fail
  refine wp_loop_rounds 1 ?_
  rw [rounds_succ]
  go_wp2_with fail
  have hte : (trimR (trimL last)).isEmpty = false := by
    cases hx : trimR (trimL last) with
    | nil => exact absurd hx (trim_ink last HINK.out)
    | cons a m => rfl
  go_quiet ((go_at_call 64; exact quiet_left (trimST_any _ _ hsz)))
  go_wp2_with fail
  have hkA : Hid (Kept b w (w3.drewN nq)) := hid HK3.out
  have hbA : Hid (Below B w (w3.drewN nq)) := hid (below_drewN HB3.out nq)
  have hiA : Hid (IsBuf B b codeHead (w3.drewN nq)) := hid HI3.out
  have hrA : Hid ((w3.drewN nq).ownsRow base 9 1 (.slice (some ⟨rb, 0, none⟩) (ls.length + 1) rc) (ls.length + 1) ((ls ++ [last]).map lineV)) := hid (World.ownsRow.drewN HRW3.out nq)
  clear d2 d4 r0 hte HK3 HB3 HI3 HBK3 HRW3 hl1
  generalize World.drewN w3 nq = wa at hkA hbA hiA hrA ⊢
  go_loopw [101] (fun t wr => CodeR B b codeHead (ls.length + 1) (ls ++ [last]) wa t wr) (fun t _ => ls.length + 1 - (intOf t).toNat)
  case atStart => exact ⟨0, Nat.zero_le _, rfl, by simpa using hiA.out, Below.refl _ _, Lib.OthersKept.refl _ _ _⟩
  case round =>
    obtain ⟨i, hi, rfl, hbf, hbel, hk⟩ := hrel
    have hll : (ls ++ [last]).length = ls.length + 1 := by simp
    have HLL := hid hll
    clear hll
    by_cases hlt : i < ls.length + 1
    · have hy : i < (ls ++ [last]).length := by rw [HLL.out]; exact hlt
      have hrw := own_kept hrA.out hk hrb (by decide)
      have r0 : wr.cell? ⟨rb, i, none⟩ = some (lineV ((ls ++ [last])[i]'hy)) := by
        rw [World.ownsRow.cellAt hrw _ (by omega), List.getElem?_map, List.getElem?_eq_getElem hy]
        rfl
      have hlen := HLEN.out _ (List.getElem_mem hy)
      have htk := hid (show ((ls ++ [last]).take (i + 1)).flatMap (fun l => esc l ++ [10]) = ((ls ++ [last]).take i).flatMap (fun l => esc l ++ [10]) ++ (esc ((ls ++ [last])[i]'hy) ++ [10]) by rw [List.take_add_one, List.getElem?_eq_getElem hy, List.flatMap_append]; simp only [Option.toList_some, List.flatMap_cons, List.flatMap_nil, List.append_nil])
      have hpl := hid (code_len (ls ++ [last]) i HLEN.out)
      generalize (ls ++ [last])[i]'hy = l at r0 hlen htk
      generalize ((ls ++ [last]).take i).flatMap (fun l => esc l ++ [10]) = pre at hbf htk hpl
      have hpl2 := hpl.out
      unfold lineV at r0
      have HBF := hid hbf
      have HBL := hid hbel
      have HK := hid hk
      clear hbf hbel hk hrw
      go_wp2_with fail
      refine (htmlEscaper_any _).mono ?_
      rintro e w4 ⟨n4, rfl, hn4, hp4, hb4⟩
      have hi4 := hid (IsBuf.old HBF.out hb4)
      have hk4 := hid (Lib.OthersKept.below HK.out hb4)
      have hB4 := hid (HBL.out.trans (hb4.mono (Nat.le_trans (Nat.le_trans hB hbA.out.size) HBL.out.size)))
      have HP4 := hid hp4
      clear hp4 hb4 r0
      go_wp2_with fail
      refine (replace_any n4 _ _ HP4.out (bsz (by omega))).mono ?_
      rintro e w5 ⟨rfl, hb5⟩
      have hi5 := hid (IsBuf.old hi4.out hb5)
      have hk5 := hid (Lib.OthersKept.below hk4.out hb5)
      have hB5 := hid (hB4.out.trans (hb5.mono (Nat.le_trans (Nat.le_trans hB hbA.out.size) hB4.out.size)))
      clear hb5
      have hel := esc_len l
      have hsz5 : B ≤ w5.heap.size := Nat.le_trans (Nat.le_trans hB hbA.out.size) hB5.out.size
      go_wp2_with fail
      refine (write_str B b (codeHead ++ pre) ⟨(esc l).toArray⟩ _ ?_ ?_ ?_).mono ?_
      · exact hi5.out
      · exact hsz5
      · rw [List.length_append]
        show 11 + pre.length + (esc l).toArray.size ≤ 2000000
        rw [List.size_toArray]
        omega
      rintro e w6 ⟨rfl, h6, b6, k6⟩
      have hi6 := hid (show IsBuf B b (codeHead ++ pre ++ esc l) w6 from h6)
      have hB6 := hid (hB5.out.trans b6)
      have hk6 := hid (Lib.OthersKept.trans hk5.out k6)
      clear h6 b6 k6
      go_wp2_with fail
      refine (write_str B b (codeHead ++ pre ++ esc l) ⟨#[10]⟩ _ ?_ ?_ ?_).mono ?_
      · exact hi6.out
      · exact Nat.le_trans (Nat.le_trans hB hbA.out.size) hB6.out.size
      · rw [List.length_append, List.length_append]
        show 11 + pre.length + (esc l).length + 1 ≤ 2000000
        omega
      rintro e w7 ⟨rfl, h7, b7, k7⟩
      have hi7 := hid (show IsBuf B b (codeHead ++ pre ++ esc l ++ [10]) w7 from h7)
      have hB7 := hid (hB6.out.trans b7)
      have hk7 := hid (Lib.OthersKept.trans hk6.out k7)
      clear h7 b7 k7
      go_wp2_with fail
      go_roundw
      case rel => exact ⟨i + 1, by omega, by go_num, by rw [htk.out, ← List.append_assoc, ← List.append_assoc]; exact hi7.out, hB7.out, hk7.out⟩
      case measure => simp [intOf]; omega
    · obtain rfl : i = ls.length + 1 := by omega
      have htk : (ls ++ [last]).take (ls.length + 1) = ls ++ [last] := List.take_of_length_le (by rw [HLL.out]; exact Nat.le_refl _)
      have hpl := hid (code_len (ls ++ [last]) (ls.length + 1) HLEN.out)
      rw [htk] at hbf hpl
      have HBF := hid hbf
      have HBL := hid hbel
      have HK := hid hk
      clear hbf hbel hk htk
      go_wp2_with fail
      refine (write_str B b (codeHead ++ (ls ++ [last]).flatMap (fun l => esc l ++ [10])) ⟨#[60, 47, 99, 111, 100, 101, 62, 60, 47, 112, 114, 101, 62, 10]⟩ _ ?_ ?_ ?_).mono ?_
      · exact HBF.out
      · exact Nat.le_trans (Nat.le_trans hB hbA.out.size) HBL.out.size
      · have := hpl.out
        rw [List.length_append]
        show 11 + _ + 14 ≤ 2000000
        omega
      rintro e w7 ⟨rfl, h7, b7, k7⟩
      have hi7 := hid (show IsBuf B b (codeOut (ls ++ [last])) w7 from h7)
      have hB7 := hid ((hbA.out.trans HBL.out).trans b7)
      have hk7 := hid (Lib.OthersKept.trans (Lib.OthersKept.trans hkA.out HK.out) k7)
      clear h7 b7 k7
      go_wp2_with fail
      go_end0
      exact ⟨rfl, hi7.out, hB7.out, hk7.out⟩
end Go.Proofs.YtmmijmhdbpldpaaGreatDoor
/- Inline texts: what they are, and how the text between them is laid out. -/





namespace Go.Proofs.YtmmijmhdbpldpaaGreatDoor
open Go.RowKit
/-- An inline text: the type of its pointer, that of its block, and what this holds. -/
structure Kind where
  T : TypeId
  tb : TypeId
  cs : List Value
@[reducible] def plainK (l : List UInt8) : Kind := ⟨156, 137, [lineV l]⟩
/-- No type of a block that the machinery itself writes. -/
structure Kind.Ok (k : Kind) : Prop where
  ps : k.tb ≠ 95
  row : k.tb ≠ 132
  text : k.tb ≠ 110
  open_ : ∀ p w, (Instr.typeAssert (.iface k.T (.pointer p)) 132 134 true).run Tryz.prog w = .ok (.tuple #[.pointer none, .bool false]) w
  emph_ : ∀ p w, (Instr.typeAssert (.iface k.T (.pointer p)) 132 190 true).run Tryz.prog w = .ok (.tuple #[.pointer none, .bool false]) w
/-- What the list itself asks of its parts. -/
structure Kind.Fit (k : Kind) : Prop where
  ps : k.tb ≠ 95
  row : k.tb ≠ 132
theorem Kind.Ok.fit {k : Kind} (h : k.Ok) : k.Fit := ⟨h.ps, h.row⟩
theorem plainK_ok (l : List UInt8) : (plainK l).Ok := ⟨(by decide : (137 : Nat) ≠ 95), (by decide : (137 : Nat) ≠ 132), (by decide : (137 : Nat) ≠ 110), fun _ _ => by kernel_rfl, fun _ _ => by kernel_rfl⟩
theorem infoInl : (Tryz.prog.info? 132).map (fun i => (i.zero, i.size, i.bytes)) = some (some .nilIface, 1, 16) := by kernel_rfl
def IsItem (w : World) (B : Nat) (v : Value) (k : Kind) : Prop := ∃ b, v = .iface k.T (.pointer (some ⟨b, 0, none⟩)) ∧ Blk w b k.tb k.cs.toArray ∧ B ≤ b
/-- A list of inline texts. -/
def IsItems (w : World) (B : Nat) (vs : List Value) (ks : List Kind) : Prop := vs.length = ks.length ∧ ∀ (j : Nat) v k, vs[j]? = some v → ks[j]? = some k → IsItem w B v k
theorem IsItem.mod {w w' : World} {B : Nat} {v : Value} {k : Kind} {S : Nat → Prop} (h : IsItem w B v k) (hm : Mod S w w') (hn : ∀ b cs, Blk w b k.tb cs → B ≤ b → ¬ S b) : IsItem w' B v k := by
  obtain ⟨b, h1, h2, h3⟩ := h
  exact ⟨b, h1, h2.mod hm (hn b _ h2 h3), h3⟩
theorem IsItems.mod {w w' : World} {B : Nat} {vs : List Value} {ks : List Kind} {S : Nat → Prop} (h : IsItems w B vs ks) (hm : Mod S w w') (hn : ∀ k, k ∈ ks → ∀ b cs, Blk w b k.tb cs → B ≤ b → ¬ S b) : IsItems w' B vs ks :=
  ⟨h.1, fun j v k hv hk => (h.2 j v k hv hk).mod hm (hn k (List.mem_of_getElem? hk))⟩
theorem IsItems.nil (w : World) (B : Nat) : IsItems w B [] [] := ⟨rfl, fun j v k hv => by simp at hv⟩
theorem IsItems.snoc {w : World} {B : Nat} {vs : List Value} {ks : List Kind} {v : Value} {k : Kind} (h : IsItems w B vs ks) (hv : IsItem w B v k) : IsItems w B (vs ++ [v]) (ks ++ [k]) := by
  refine ⟨by simp [h.1], fun j u q hu hq => ?_⟩
  have hl := h.1
  rcases Nat.lt_or_ge j vs.length with hj | hj
  · rw [List.getElem?_append_left hj] at hu
    rw [List.getElem?_append_left (by omega)] at hq
    exact h.2 j u q hu hq
  · rw [List.getElem?_append_right hj] at hu
    rw [List.getElem?_append_right (by omega)] at hq
    rcases Nat.eq_or_lt_of_le hj with h0 | h0
    · rw [show j - vs.length = 0 from by omega] at hu
      rw [show j - ks.length = 0 from by omega] at hq
      simp only [List.getElem?_cons_zero, Option.some.injEq] at hu hq
      subst hu hq
      exact hv
    · rw [List.getElem?_eq_none (by simp; omega)] at hu
      cases hu
/-- Blocks of other types than those that the list's machinery writes stay. -/
def KeepT (w w' : World) : Prop := ∀ k ty cs, Blk w k ty cs → ty ≠ 95 → ty ≠ 132 → Blk w' k ty cs
theorem KeepT.refl (w : World) : KeepT w w := fun _ _ _ h _ _ => h
theorem KeepT.trans {w w1 w2 : World} (h : KeepT w w1) (h2 : KeepT w1 w2) : KeepT w w2 := fun k ty cs hb a b => h2 k ty cs (h k ty cs hb a b) a b
theorem KeepT.of {w w' : World} {S : Nat → Prop} (hm : Mod S w w') (hn : ∀ k ty cs, Blk w k ty cs → ty ≠ 95 → ty ≠ 132 → ¬ S k) : KeepT w w' := fun k ty cs hb a b => hb.mod hm (hn k ty cs hb a b)
theorem KeepT.item {w w' : World} {B : Nat} {v : Value} {k : Kind} (h : KeepT w w') (hk : k.Fit) (hi : IsItem w B v k) : IsItem w' B v k := by
  obtain ⟨b, h1, h2, h3⟩ := hi
  exact ⟨b, h1, h b _ _ h2 hk.ps hk.row, h3⟩
theorem KeepT.own {w w' : World} {base : Nat} {e : TypeId} {size n : Nat} {v : Value} {xs : List Value} (hk : KeepT w w') (h : w.ownsRow base e size v n xs) (h1 : e ≠ 95) (h2 : e ≠ 132) : w'.ownsRow base e size v n xs := by
  refine ⟨h.1, ?_⟩
  rcases h.2 with h0 | ⟨g', cap, cur, rfl, hb, hh, h3⟩
  · exact .inl h0
  · exact .inr ⟨g', cap, cur, rfl, hb, hk g' e cur hh h1 h2, h3⟩
/-- While a text is read: what has been laid out. -/
def InS (B g : Nat) (r : PSr) (em : Nat) (ks : List Kind) (w : World) : Prop :=
  ∃ l vs, IsPS w g { r with emitted := em, list := l } ∧ w.ownsRow B 132 1 l.v l.n vs ∧ l.n = ks.length ∧ IsItems w B vs ks
/-- The text between. -/
def pieceK (s : ByteArray) (em i : Nat) : List Kind := if em < i then [plainK ((s.data.toList.take i).drop em)] else []
theorem pieceK_ok (s : ByteArray) (em i : Nat) : ∀ k ∈ pieceK s em i, k.Ok := by
  intro k hk
  unfold pieceK at hk
  split at hk
  · simp only [List.mem_cons, List.not_mem_nil, or_false] at hk
    subst hk; exact plainK_ok _
  · cases hk
theorem extract_mk (s : ByteArray) (a b : Nat) : s.extract a b = ⟨((s.data.toList.take b).drop a).toArray⟩ := by
  apply ByteArray.ext
  apply Array.toList_inj.1
  rw [Lib.extract_data]
  simp [List.drop_take]
theorem news2 (w : World) (o : Obj) (u : Value) (t : TypeId) : ∀ j x, ([u] : List Value)[j]? = some x → (((w.drew).alloc o).alloc (.cells #[u] t)).cell? ((⟨w.heap.size + 1, 0, none⟩ : Addr).add j) = some x :=
  World.news_of_block (cs := #[u]) (t := t) (fr := (0, 0)) (by have := heap_alloc_new (w.drew.alloc o) (.cells #[u] t); rwa [show (w.drew.alloc o).heap.size = w.heap.size + 1 from by simp] at this)
set_option maxRecDepth 20000 in
set_option maxHeartbeats 4000000 in
theorem emit_anyF (B g : Nat) (r : PSr) (em i : Nat) (ks : List Kind) (w : World) (hgB : g < B) (hB : B ≤ w.heap.size) (hin : InS B g r em ks w) (hok : ∀ k ∈ ks, k.Fit) (hei : em ≤ i) (his : i ≤ r.s.size) (hkl : ks.length ≤ 1000000) :
    Calls Tryz.prog 77 #[.pointer (some ⟨g, 0, none⟩), .int .i64 i] w fun e w' => e = .returned (.tuple #[]) ∧ InS B g r i (ks ++ pieceK r.s em i) w' ∧ Mod (fun k => k = g ∨ B ≤ k) w w' ∧ KeepT w w' := by
  obtain ⟨is0, his0, hsz0, hsz1, hsz2⟩ := info_parts infoInl
  obtain ⟨l, vs, hps, hrow, hln, hits⟩ := hin
  have c7 := hps.c7
  have c8 := hps.c8
  have c9 := hps.c9
  have f1 := hps.free
  have hg := hps.lt
  dsimp only at c7 c8 c9
  by_cases hlt : em < i
  · have hkn : l.n ≤ 1000000 := by omega
    have HLN := hid hln
    clear hln
    have HPS := hid hps
    have HROW := hid hrow
    have HITS := hid hits
    have HOK := hid hok
    clear hps hrow hits hok
    go_enter Tryz.func77, Tryz.ntmps77
    go_wp2_with fail
    go_region_law (first
      | (refine step_append_lies _ rfl (.tmp 14) (.tmp 28) 88 (by rfl) B 132 is0 _ 1 16 Tryz.underlying88 his0 hsz0 hsz1 hsz2 rfl (by decide) (.slice l.a l.n l.c) l.n vs (by rfl) (by first | exact World.ownsRow.alloc (World.ownsRow.alloc (World.ownsRow.drewN HROW.out 1) _) _ | exact World.ownsRow.drewN (World.ownsRow.alloc (World.ownsRow.alloc HROW.out _) _) 1) ⟨w.heap.size + 1, 0, none⟩ 1 1 [.iface 156 (.pointer (some ⟨w.heap.size, 0, none⟩))] (by rfl) rfl (news2 w _ _ _) (by intro v hv; simp at hv; subst hv; rfl) (by omega) (by unfold maxLen; omega) (by omega) (by simp; omega) (w.heap.size + 2) (by simp) ?_
         intro g2 cap2 w4 hown4 hgr4 hat4 hlt4
         have hp4 : IsPS w4 g { r with emitted := em, list := l } := Blk.grown (Blk.alloc (Blk.alloc (w := World.drew w) HPS.out _) _) hgr4 (own_ne HROW.out HPS.out (by decide))
         have q9 := hp4.c9
         have fq := hp4.free))
    all_goals
      clear c7 c8 c9 f1 q9 fq
      have hm4 : Mod (fun k => some k = l.v.ownBlock) w w4 := Mod.grown (((Mod.drewN (Mod.refl _ w) 1).alloc _).alloc _) hgr4 (fun k hk => .inl hk.symm)
      have hnew : IsItem w4 B (.iface 156 (.pointer (some ⟨w.heap.size, 0, none⟩))) (plainK ((r.s.data.toList.take i).drop em)) := by
        refine ⟨w.heap.size, rfl, Blk.grown (Blk.alloc (w := World.alloc (World.drew w) (.cells #[.string (r.s.extract em i)] 137)) ?_ _) hgr4 (fun e => by have := ownLt HROW.out e; omega), hB⟩
        have := Blk.new (World.drew w) 137 #[.string (r.s.extract em i)]
        rw [extract_mk] at this ⊢
        exact this
      have hits4 := (HITS.out.mod hm4 (fun k hk b cs hb _ e => own_ne HROW.out hb (HOK.out k hk).row.symm e)).snoc hnew
      have hps5 := (hp4.set9 (some ⟨g2, 0, none⟩) (l.n + 1) cap2)
      have hown5 := own_far hown4 (p := ⟨g, 9, none⟩) (own_ne hown4 hp4 (by decide)) (.slice (some ⟨g2, 0, none⟩) (l.n + 1) cap2)
      have hm5 : Mod (fun k => k = g) w4 (w4.setCell ⟨g, 9, none⟩ (.slice (some ⟨g2, 0, none⟩) (l.n + 1) cap2)) := (Mod.refl (fun k => k = g) w4).setCell (p := ⟨g, 9, none⟩) (.inl rfl) _
      have hits5 := hits4.mod hm5 (fun k hk b cs hb _ e => by
        subst e
        have hk' : k.Fit := by
          rcases List.mem_append.1 hk with h | h
          · exact HOK.out k h
          · simp only [List.mem_cons, List.not_mem_nil, or_false] at h; subst h; exact (plainK_ok _).fit
        exact Blk.ne_ hb hp4 hk'.ps rfl)
      have HP4 := hid hp4
      have HM4 := hid hm4
      have HM5 := hid hm5
      have HI5 := hid hits5
      have HP5 := hid hps5
      have HO5 := hid hown5
      clear hm4 hm5 hits4 hits5 hps5 hown5 hown4 hgr4 hat4 hlt4 hnew hp4
      generalize World.setCell w4 ⟨g, 9, none⟩ _ = w5 at HM5 HI5 HP5 HO5 ⊢
      have c8 := HP5.out.c8
      have fq := HP5.out.free
      go_wp2_with fail
      go_end0
      refine ⟨rfl, ⟨⟨some ⟨g2, 0, none⟩, l.n + 1, cap2⟩, vs ++ [.iface 156 (.pointer (some ⟨w.heap.size, 0, none⟩))], HP5.out.set8 i, own_far HO5.out (p := ⟨g, 8, none⟩) (own_ne HO5.out HP5.out (by decide)) _, by rw [pieceK, if_pos hlt, List.length_append, HLN.out]; rfl, ?_⟩, ?_⟩
      · rw [pieceK, if_pos hlt]
        exact HI5.out.mod (S := fun k => k = g) ((Mod.refl (fun k => k = g) w5).setCell (p := ⟨g, 8, none⟩) (.inl rfl) _) (fun k hk b cs hb _ e => by
          subst e
          have hk' : k.Fit := by
            rcases List.mem_append.1 hk with h | h
            · exact HOK.out k h
            · simp only [List.mem_cons, List.not_mem_nil, or_false] at h; subst h; exact (plainK_ok _).fit
          exact Blk.ne_ hb HP5.out hk'.ps rfl)
      · have hfin : Mod (fun k => k = g ∨ B ≤ k) w w5 := (HM4.out.mono (S' := fun k => k = g ∨ B ≤ k) (fun k hk e => .inr (ownBase HROW.out e))).trans HM5.out (fun k _ e => .inl e)
        refine ⟨hfin.setCell (p := ⟨g, 8, none⟩) (.inl (.inl rfl)) _, ?_⟩
        refine ((KeepT.of HM4.out (fun k ty cs hb _ h2 e => own_ne HROW.out hb h2.symm e)).trans (KeepT.of HM5.out (fun k ty cs hb h1 _ e => ?_))).trans (KeepT.of ((Mod.refl (fun k => k = g) w5).setCell (p := ⟨g, 8, none⟩) (.inl rfl) _) (fun k ty cs hb h1 _ e => ?_))
        · subst e; exact Blk.ne_ hb HP4.out h1 rfl
        · subst e; exact Blk.ne_ hb HP5.out h1 rfl
  · have he : em = i := by omega
    subst he
    go_enter Tryz.func77, Tryz.ntmps77
    go_wp2_with fail
    go_end0
    refine ⟨rfl, ⟨l, vs, hps, hrow, ?_, ?_⟩, Mod.refl _ _, KeepT.refl _⟩
    · rw [pieceK, if_neg (by omega), List.append_nil]; exact hln
    · rw [pieceK, if_neg (by omega), List.append_nil]; exact hits
/-- Nothing stands between: nothing is laid out. -/
theorem emit_none (g : Nat) (r : PSr) (i : Nat) (w : World) (hps : IsPS w g r) (he : r.emitted = i) :
    Calls Tryz.prog 77 #[.pointer (some ⟨g, 0, none⟩), .int .i64 i] w fun e w' => e = .returned (.tuple #[]) ∧ w = w' := by
  have c8 := hps.c8
  rw [he] at c8
  go_enter Tryz.func77, Tryz.ntmps77
  go_wp2_with fail
  go_end0
  exact ⟨rfl, rfl⟩
theorem emit_any (B g : Nat) (r : PSr) (em i : Nat) (ks : List Kind) (w : World) (hgB : g < B) (hB : B ≤ w.heap.size) (hin : InS B g r em ks w) (hok : ∀ k ∈ ks, k.Ok) (hei : em ≤ i) (his : i ≤ r.s.size) (hkl : ks.length ≤ 1000000) :
    Calls Tryz.prog 77 #[.pointer (some ⟨g, 0, none⟩), .int .i64 i] w fun e w' => e = .returned (.tuple #[]) ∧ InS B g r i (ks ++ pieceK r.s em i) w' ∧ Mod (fun k => k = g ∨ B ≤ k) w w' ∧ ∀ v k, k.Ok → IsItem w B v k → IsItem w' B v k :=
  (emit_anyF B g r em i ks w hgB hB hin (fun k hk => (hok k hk).fit) hei his hkl).mono fun _ _ h => ⟨h.1, h.2.1, h.2.2.1, fun _ _ hk hi => h.2.2.2.item hk.fit hi⟩
end Go.Proofs.YtmmijmhdbpldpaaGreatDoor
/- What has been read is passed over. -/

namespace Go.Proofs.YtmmijmhdbpldpaaGreatDoor
open Go.RowKit
theorem InS.set8F {B g : Nat} {r : PSr} {em : Nat} {ks : List Kind} {w : World} (h : InS B g r em ks w) (hok : ∀ k ∈ ks, k.Fit) (i : Nat) : InS B g r i ks (w.setCell ⟨g, 8, none⟩ (.int .i64 i)) := by
  obtain ⟨l, vs, hps, hrow, hln, hits⟩ := h
  refine ⟨l, vs, hps.set8 i, own_far hrow (p := ⟨g, 8, none⟩) (own_ne hrow hps (by decide)) _, hln, ?_⟩
  exact hits.mod (S := fun k => k = g) ((Mod.refl (fun k => k = g) w).setCell (p := ⟨g, 8, none⟩) (.inl rfl) _) (fun k hk b cs hb _ e => by subst e; exact Blk.ne_ hb hps (hok k hk).ps rfl)
theorem skipI_anyF (B g : Nat) (r : PSr) (em i : Nat) (ks : List Kind) (w : World) (hin : InS B g r em ks w) (hok : ∀ k ∈ ks, k.Fit) :
    Calls Tryz.prog 78 #[.pointer (some ⟨g, 0, none⟩), .int .i64 i] w fun e w' => e = .returned (.tuple #[]) ∧ InS B g r i ks w' ∧ Mod (fun k => k = g) w w' := by
  have H := hid (hin.set8F hok i)
  obtain ⟨l, vs, hps, _⟩ := hin
  have c8 := hps.c8
  have fq := hps.free
  clear hps
  go_enter Tryz.func78, Tryz.ntmps78
  go_wp2_with fail
  go_end0
  exact ⟨rfl, H.out, (Mod.refl (fun k => k = g) w).setCell (p := ⟨g, 8, none⟩) (.inl rfl) _⟩
/-- An inline text is put behind the list: what the append and the store leave. -/
theorem InS.pushF {B g : Nat} {r : PSr} {em : Nat} {ks : List Kind} {k : Kind} {l : Sl} {vs : List Value} {v : Value} {w w4 : World} {o : Obj} {g2 cap2 : Nat} (hps : IsPS w g { r with emitted := em, list := l }) (hrow : w.ownsRow B 132 1 l.v l.n vs) (hln : l.n = ks.length) (hits : IsItems w B vs ks)
    (hok : ∀ k ∈ ks, k.Fit) (hk : k.Fit) (hv : IsItem w B v k) (hown : w4.ownsRow B 132 1 (.slice (some ⟨g2, 0, none⟩) (l.n + 1) cap2) (l.n + 1) (vs ++ [v])) (hgr : (w.alloc o).grownBy w4 l.v.ownBlock) :
    InS B g r em (ks ++ [k]) (w4.setCell ⟨g, 9, none⟩ (.slice (some ⟨g2, 0, none⟩) (l.n + 1) cap2)) ∧ Mod (fun q => q = g ∨ some q = l.v.ownBlock) w (w4.setCell ⟨g, 9, none⟩ (.slice (some ⟨g2, 0, none⟩) (l.n + 1) cap2)) := by
  have hm4 : Mod (fun q => some q = l.v.ownBlock) w w4 := Mod.grown ((Mod.refl _ w).alloc _) hgr (fun q hq => .inl hq.symm)
  have hp4 : IsPS w4 g { r with emitted := em, list := l } := hps.mod hm4 (own_ne hrow hps (by decide))
  have hits4 := (hits.snoc hv).mod hm4 (fun q hq b cs hb _ e => own_ne hrow hb (by
    rcases List.mem_append.1 hq with h | h
    · exact (hok q h).row.symm
    · simp only [List.mem_cons, List.not_mem_nil, or_false] at h; subst h; exact hk.row.symm) e)
  have hm5 : Mod (fun q => q = g) w4 (w4.setCell ⟨g, 9, none⟩ (.slice (some ⟨g2, 0, none⟩) (l.n + 1) cap2)) := (Mod.refl (fun q => q = g) w4).setCell (p := ⟨g, 9, none⟩) (.inl rfl) _
  refine ⟨⟨⟨some ⟨g2, 0, none⟩, l.n + 1, cap2⟩, vs ++ [v], hp4.set9 _ _ _, own_far hown (p := ⟨g, 9, none⟩) (own_ne hown hp4 (by decide)) _, by simp [hln], ?_⟩, ?_⟩
  · exact hits4.mod hm5 (fun q hq b cs hb _ e => by
      subst e
      refine Blk.ne_ hb hp4 ?_ rfl
      rcases List.mem_append.1 hq with h | h
      · exact (hok q h).ps
      · simp only [List.mem_cons, List.not_mem_nil, or_false] at h; subst h; exact hk.ps)
  · exact (hm4.mono (fun q _ h => .inr h)).trans hm5 (fun q _ h => .inl h)
theorem InS.set8 {B g : Nat} {r : PSr} {em : Nat} {ks : List Kind} {w : World} (h : InS B g r em ks w) (hok : ∀ k ∈ ks, k.Ok) (i : Nat) : InS B g r i ks (w.setCell ⟨g, 8, none⟩ (.int .i64 i)) := h.set8F (fun k hk => (hok k hk).fit) i
theorem skipI_any (B g : Nat) (r : PSr) (em i : Nat) (ks : List Kind) (w : World) (hin : InS B g r em ks w) (hok : ∀ k ∈ ks, k.Ok) :
    Calls Tryz.prog 78 #[.pointer (some ⟨g, 0, none⟩), .int .i64 i] w fun e w' => e = .returned (.tuple #[]) ∧ InS B g r i ks w' ∧ Mod (fun k => k = g) w w' := skipI_anyF B g r em i ks w hin (fun k hk => (hok k hk).fit)
theorem InS.push {B g : Nat} {r : PSr} {em : Nat} {ks : List Kind} {k : Kind} {l : Sl} {vs : List Value} {v : Value} {w w4 : World} {o : Obj} {g2 cap2 : Nat} (hps : IsPS w g { r with emitted := em, list := l }) (hrow : w.ownsRow B 132 1 l.v l.n vs) (hln : l.n = ks.length) (hits : IsItems w B vs ks)
    (hok : ∀ k ∈ ks, k.Ok) (hk : k.Ok) (hv : IsItem w B v k) (hown : w4.ownsRow B 132 1 (.slice (some ⟨g2, 0, none⟩) (l.n + 1) cap2) (l.n + 1) (vs ++ [v])) (hgr : (w.alloc o).grownBy w4 l.v.ownBlock) :
    InS B g r em (ks ++ [k]) (w4.setCell ⟨g, 9, none⟩ (.slice (some ⟨g2, 0, none⟩) (l.n + 1) cap2)) ∧ Mod (fun q => q = g ∨ some q = l.v.ownBlock) w (w4.setCell ⟨g, 9, none⟩ (.slice (some ⟨g2, 0, none⟩) (l.n + 1) cap2)) := InS.pushF hps hrow hln hits (fun k hk => (hok k hk).fit) hk.fit hv hown hgr
end Go.Proofs.YtmmijmhdbpldpaaGreatDoor
/- A list without signs of emphasis and without brackets passes emph unturned. -/



namespace Go.Proofs.YtmmijmhdbpldpaaGreatDoor
open Go.RowKit
theorem setCell_eq {w : World} {b o : Nat} {t : TypeId} {cs : Array Value} {v : Value} (hg : Blk w b t cs) (hv : cs[o]? = some v) : w.setCell ⟨b, o, none⟩ v = w := by
  have hlt : b < w.heap.size := hg.lt
  have hv2 : w.heap[b] = .cells cs t (0, 0) := (Array.getElem?_eq_some_iff.1 hg).2
  have ho : cs.setIfInBounds o v = cs := by
    obtain ⟨h1, h2⟩ := Array.getElem?_eq_some_iff.1 hv
    apply Array.ext
    · simp
    · intro k h3 h4
      rw [Array.getElem_setIfInBounds]
      split
      · rename_i hk; subst hk; exact h2.symm
      · rfl
  unfold World.setCell
  cases w with
  | mk heap tape drawn os output =>
    congr 1
    apply Array.ext
    · simp
    · intro k h1 h2
      simp only [Array.getElem_modify]
      split
      · rename_i hk; subst hk; simp at hv2; simp [hv2, ho]
      · rfl
theorem setCells_one {w : World} {b o : Nat} {t : TypeId} {cs : Array Value} {v : Value} (hg : Blk w b t cs) (hv : cs[o]? = some v) : w.setCells b (0 + o * 1) [v] = w := by
  simp only [World.setCells, Nat.zero_add, Nat.mul_one]
  exact setCell_eq hg hv
/-- The row of a list that is not empty. -/
theorem row_blk {w : World} {B n : Nat} {e : TypeId} {a : Option Addr} {c : Nat} {vs : List Value} (h : w.ownsRow B e 1 (.slice a n c) n vs) (h0 : 0 < n) : ∃ lb cs, a = some ⟨lb, 0, none⟩ ∧ Blk w lb e cs ∧ B ≤ lb ∧ n ≤ c ∧ cs.size = c ∧ (∀ j, j < n → cs[j]? = vs[j]?) ∧ vs.length = n := by
  obtain ⟨hl, h⟩ := h
  rcases h with ⟨_, h2⟩ | ⟨g, cap, cur, h3, hb, hh, h4, _, h5, h6⟩
  · omega
  · simp only [Value.slice.injEq] at h3
    obtain ⟨rfl, _, rfl⟩ := h3
    refine ⟨g, cur, rfl, hh, hb, h4, by omega, fun j hj => ?_, by omega⟩
    have e1 : (cur.toList.take (n * 1))[j]? = vs[j]? := by rw [h6]
    rw [List.getElem?_take, if_pos (by omega)] at e1
    simpa using e1
theorem row_cap {w : World} {B n : Nat} {e : TypeId} {a : Option Addr} {c : Nat} {vs : List Value} (h : w.ownsRow B e 1 (.slice a n c) n vs) (h0 : 0 < n) : c ≤ 9223372036854775807 := by
  rcases h.2 with ⟨_, h2⟩ | ⟨g, cap, cur, h3, _, _, _, h5, _⟩
  · omega
  · simp only [Value.slice.injEq] at h3
    obtain ⟨_, _, rfl⟩ := h3
    exact h5
@[reducible] def emphFrame (g lb n c hb : Nat) (i : Int) (u11 u12 u13 u14 u23 u24 u25 u26 u27 u28 u29 u30 u31 u32 u33 u34 u35 u36 u37 u38 u39 u40 u41 u42 u43 u44 u45 u46 u47 u48 u49 u50 u51 u52 u53 u54 u55 u56 u57 u58 u59 u60 u61 : Value) : Act := { tmps := #[.pointer (some ⟨g, 0, none⟩), .slice (some ⟨lb, 0, none⟩) 0 c, .slice (some ⟨lb, 0, none⟩) n c, undef, .pointer (some ⟨hb, 0, none⟩), undef, .slice none 0 0, .pointer (some ⟨hb + 1, 0, none⟩), .func (Fn.func 119) #[] #[], .func (Fn.func 120) #[] #[.pointer (some ⟨hb + 1, 0, none⟩), .pointer (some ⟨hb, 0, none⟩)], .int .i64 i, u11, u12, u13, u14, undef, undef, undef, undef, undef, undef, undef, .func (Fn.func 120) #[] #[.pointer (some ⟨hb + 1, 0, none⟩), .pointer (some ⟨hb, 0, none⟩)], u23, u24, u25, u26, u27, u28, u29, u30, u31, u32, u33, u34, u35, u36, u37, u38, u39, u40, u41, u42, u43, u44, u45, u46, u47, u48, u49, u50, u51, u52, u53, u54, u55, u56, u57, u58, u59, u60, u61, undef, undef, undef, undef, undef, undef, undef, undef, undef, undef, undef, undef, undef, undef, undef, undef, undef, undef, undef, undef, undef, undef, undef, undef, undef, undef, undef, undef, undef, undef, undef, undef, undef, undef, undef, undef, undef, undef, undef, undef, undef, undef, undef, undef, undef, undef, undef, undef, undef, undef, undef, undef, undef, undef, undef, undef, undef, undef, undef, undef, undef, undef, undef, undef, undef, undef, undef, undef, undef, undef, undef, undef, undef, undef, undef, undef, undef, undef, undef, undef, undef, undef, undef, undef, undef, undef, undef, undef, undef, undef, undef, undef, undef, undef, undef, undef, undef, undef, undef, undef, undef, undef, undef, undef, undef, undef, undef, undef, undef, undef, undef, undef, undef, undef, undef, undef, undef, undef, undef, undef, undef, undef, undef, undef, undef, undef, undef, undef, undef, undef, undef, undef, undef, undef, undef, undef, undef, undef, undef, undef, undef, undef, undef, undef, undef, undef, undef, undef, undef, undef, undef, undef, undef, undef, undef, undef, undef, undef, undef, undef, undef, undef, undef, undef, undef, undef, undef, undef, undef, undef, undef, undef, undef, undef, undef, undef, undef, undef, undef, undef, undef, undef, undef, undef, undef, undef, undef, undef, undef, undef, undef, undef, undef, undef, undef, undef, undef, undef, undef, undef, undef, undef, undef, undef, undef, undef, undef, undef, undef, undef, undef, undef, undef, undef, undef, undef, undef, undef, undef, undef, undef, undef, undef, undef, undef, undef, undef, undef, undef, undef, undef, undef, undef, undef, undef, undef, undef, undef, undef, undef, undef, undef, undef, undef, undef, undef, undef, undef, undef, undef, undef, undef, undef, undef, undef, undef, undef, undef, undef, undef, undef, undef, undef, undef, undef, undef, undef, undef, undef, undef, undef, undef, undef, undef, undef, undef, undef, undef, undef, undef, undef, undef, undef, undef, undef, undef, undef, undef, undef, undef, undef, undef, undef, undef, undef, undef, undef, undef, undef, undef, undef, undef, undef, undef, undef, undef, undef, undef, undef, undef, undef, undef, undef, undef, undef, undef, undef, undef, undef, undef, undef, undef, undef, undef, undef, undef, undef, undef, undef, undef, undef, undef, undef, undef, undef, undef, undef, undef, undef, undef, undef, undef, undef, undef, undef, undef, undef, undef, undef, undef, undef, undef, undef, undef, undef, undef, undef, undef, undef, undef, undef, undef, undef, undef, undef, undef, undef, undef, undef, undef, undef, undef, undef, undef], defers := [] }
def EmphI (g lb n c : Nat) (w : World) (a : Act) (wr : World) : Prop := ∃ (i : Nat) (u11 u12 u13 u14 u23 u24 u25 u26 u27 u28 u29 u30 u31 u32 u33 u34 u35 u36 u37 u38 u39 u40 u41 u42 u43 u44 u45 u46 u47 u48 u49 u50 u51 u52 u53 u54 u55 u56 u57 u58 u59 u60 u61 : Value), (i ≤ n ∧ Below w.heap.size w wr ∧ Blk wr w.heap.size 88 #[.slice (some ⟨lb, 0, none⟩) i c]) ∧ a = emphFrame g lb n c w.heap.size i u11 u12 u13 u14 u23 u24 u25 u26 u27 u28 u29 u30 u31 u32 u33 u34 u35 u36 u37 u38 u39 u40 u41 u42 u43 u44 u45 u46 u47 u48 u49 u50 u51 u52 u53 u54 u55 u56 u57 u58 u59 u60 u61
set_option maxRecDepth 20000 in
set_option maxHeartbeats 4000000 in
theorem emph_flat (B g : Nat) (l : Sl) (vs : List Value) (ks : List Kind) (w : World) (_ : B ≤ w.heap.size) (hrow : w.ownsRow B 132 1 l.v l.n vs) (hits : IsItems w B vs ks) (hok : ∀ k ∈ ks, k.Ok) (hn : l.n ≤ 1000000) (h0 : 0 < l.n) :
    Calls Tryz.prog 81 #[.pointer (some ⟨g, 0, none⟩), .slice l.a 0 l.c, .slice l.a l.n l.c] w fun e w' => e = .returned (.slice l.a l.n l.c) ∧ Below w.heap.size w w' := by
  obtain ⟨is0, his0, hsz0, hsz1, hsz2⟩ := info_parts infoInl
  obtain ⟨la, n, c⟩ := l
  dsimp only at hrow hn h0 ⊢
  obtain ⟨lb, cs, rfl, hblk, hBl, hnc, hcs, hcells, hvl⟩ := row_blk hrow h0
  have HBLK := hid hblk
  have HITS := hid hits
  have HOK := hid hok
  have HCELLS := hid hcells
  have HCS := hid hcs
  have hlb := hblk.lt
  clear hblk hits hok hcells hcs hrow
  go_enter Tryz.func81, Tryz.ntmps81
  go_wp2_with fail
  go_step3
  go_wp2_with fail
  go_step3
  go_wp2_with fail
  have hbx : Hid (Blk (World.alloc _ _) w.heap.size 88 #[.slice (some ⟨lb, 0, none⟩) 0 c]) := hid (Blk.alloc (Blk.new w 88 #[.slice (some ⟨lb, 0, none⟩) 0 c]) (.cells #[.slice none 0 0, .slice none 0 0, .slice none 0 0, .slice none 0 0, .slice none 0 0] 210))
  have hbl : Hid (Below w.heap.size w (World.alloc _ _)) := hid (((Below.refl _ w).alloc (Nat.le_refl _) (.cells #[.slice (some ⟨lb, 0, none⟩) 0 c] 88)).alloc (by simp) (.cells #[.slice none 0 0, .slice none 0 0, .slice none 0 0, .slice none 0 0, .slice none 0 0] 210))
  refine wp_loop (EmphI g lb n c w) (fun a _ => n - (intOf (a.tmps.getD 10 undef)).toNat) ?_ ?_
  · refine ⟨0, ?_⟩
    iterate 43 (apply Exists.intro)
    exact ⟨⟨Nat.zero_le _, hbl.out, hbx.out⟩, rfl⟩
  · clear hbx hbl
    rintro a0 wr ⟨i, u11, u12, u13, u14, u23, u24, u25, u26, u27, u28, u29, u30, u31, u32, u33, u34, u35, u36, u37, u38, u39, u40, u41, u42, u43, u44, u45, u46, u47, u48, u49, u50, u51, u52, u53, u54, u55, u56, u57, u58, u59, u60, u61, ⟨hi, hbel, hbox⟩, rfl⟩
    try dsimp only
    have HBEL := hid hbel
    have HBOX := hid hbox
    have b0 := hbox.at_ 0 rfl
    have fb := hbox.free
    have hlr : Blk wr lb 132 cs := Blk.mod (S := fun _ => False) HBLK.out (Mod.below' hbel) (fun x => x)
    have HLR := hid hlr
    have hbz := hbox.lt
    clear hbel hbox hlr
    by_cases hlt : i < n
    · have hv0 : i < vs.length := by omega
      have hk0 : i < ks.length := by rw [← HITS.out.1]; exact hv0
      obtain ⟨bb, hv1, _, _⟩ := HITS.out.2 i _ _ (List.getElem?_eq_getElem hv0) (List.getElem?_eq_getElem hk0)
      have hkk := HOK.out _ (List.getElem_mem hk0)
      generalize ks[i]'hk0 = k at hv1 hkk
      have ta1 := hkk.open_ (some ⟨bb, 0, none⟩)
      have ta2 := hkk.emph_ (some ⟨bb, 0, none⟩)
      have hci : cs[i]? = some (.iface k.T (.pointer (some ⟨bb, 0, none⟩))) := by rw [HCELLS.out i hlt, List.getElem?_eq_getElem hv0, hv1]
      have hce : wr.cell? ⟨lb, i, none⟩ = some (.iface k.T (.pointer (some ⟨bb, 0, none⟩))) := HLR.out.at_ i hci
      have HCI := hid hci
      have hsp : ∀ j, j < ([Value.iface k.T (.pointer (some ⟨bb, 0, none⟩))] : List Value).length → ((World.drewN (World.alloc wr (.cells #[.iface k.T (.pointer (some ⟨bb, 0, none⟩))] 132)) 1).cell? ⟨lb, 0 + i * 1 + j, none⟩).isSome = true ∧ (World.drewN (World.alloc wr (.cells #[.iface k.T (.pointer (some ⟨bb, 0, none⟩))] 132)) 1).frozen? ⟨lb, 0 + i * 1 + j, none⟩ = false := fun j hj => by
        obtain rfl : j = 0 := by simp at hj; omega
        have hb' := Blk.drewN (Blk.alloc HLR.out (.cells #[.iface k.T (.pointer (some ⟨bb, 0, none⟩))] 132)) 1
        rw [show 0 + i * 1 + 0 = i from by omega]
        exact ⟨congrArg Option.isSome (hb'.at_ i HCI.out), hb'.free i⟩
      have HSP := hid hsp
      clear hkk hci hv1 hsp
      go_wp2_with fail
      go_region_law (refine step_append_room rfl (.tmp 55) (.tmp 60) 88 (by rfl) 132 is0 1 Tryz.underlying88 his0 hsz1 lb 0 i c (by rfl) ⟨wr.heap.size, 0, none⟩ 1 1 [.iface k.T (.pointer (some ⟨bb, 0, none⟩))] (by rfl) rfl (World.news_of_block (heap_alloc_new _ _)) (by intro v hv; simp at hv; subst hv; rfl) (by omega) (fun j hj => HSP.out j hj) ?_; rw [setCells_one (w := World.drew (World.alloc wr (.cells #[.iface k.T (.pointer (some ⟨bb, 0, none⟩))] 132))) (Blk.alloc HLR.out (.cells #[.iface k.T (.pointer (some ⟨bb, 0, none⟩))] 132)) HCI.out])
      all_goals
        clear ta1 ta2 hce HCI HSP
        go_wp2_with fail
        refine ⟨⟨i + 1, ?_⟩, ?_⟩
        · iterate 43 (apply Exists.intro)
          refine ⟨⟨by omega, ((HBEL.out.setCell (p := ⟨w.heap.size, 0, none⟩) (Nat.le_refl _) _).alloc (by simpa [World.setCell] using HBEL.out.size) _).drew, ?_⟩, rfl⟩
          exact Blk.drewN (Blk.alloc (by simpa using Blk.set_ HBOX.out 0 (.slice (some ⟨lb, 0, none⟩) (i + 1) c)) _) 1
        · simp [intOf]; omega
    · obtain rfl : i = n := by omega
      go_wp2_with fail
      rw [Exit.noGoto_ret]
      go_ret
      exact ⟨rfl, HBEL.out⟩
end Go.Proofs.YtmmijmhdbpldpaaGreatDoor
/- The library's contracts on strings.Join, laid at this program. -/



namespace Go.Proofs
open Go.Shelf
def Tryz.layJN_ren : Go.Shelf.Ren := ⟨fun | 156 => 169 | 165 => 32 | 166 => 33 | 169 => 35 | 240 => 47 | 241 => 48 | 276 => 58 | 277 => 59 | n => n, fun | 31 => 33 | 9 => 9 | 3 => 3 | 4 => 4 | 0 => 0 | 20 => 20 | 72 => 58 | 76 => 62 | 70 => 55 | 37 => 56 | 75 => 61 | 127 => 85 | 164 => 113 | 5 => 5 | 80 => 65 | n => n, fun | n => n⟩
theorem Tryz.layJN : Go.Proofs.Lays.n156 Tryz.prog Tryz.layJN_ren := {
  mixed := by kernel_rfl
  f156 := Tryz.func169.trans (congrArg some (by kernel_rfl))
  f165 := Tryz.func32.trans (congrArg some (by kernel_rfl))
  f166 := Tryz.func33.trans (congrArg some (by kernel_rfl))
  f169 := Tryz.func35.trans (congrArg some (by kernel_rfl))
  f240 := Tryz.func47.trans (congrArg some (by kernel_rfl))
  f241 := Tryz.func48.trans (congrArg some (by kernel_rfl))
  f276 := Tryz.func58.trans (congrArg some (by kernel_rfl))
  f277 := Tryz.func59.trans (congrArg some (by kernel_rfl))
  t0 := Tryz.underlying0
  a0 := Tryz.isAgg0
  z0 := Tryz.sizeOf0
  v0 := Tryz.zeroValue0
  t3 := Tryz.underlying3
  a3 := Tryz.isAgg3
  z3 := Tryz.sizeOf3
  v3 := Tryz.zeroValue3
  t4 := Tryz.underlying4
  a4 := Tryz.isAgg4
  z4 := Tryz.sizeOf4
  v4 := Tryz.zeroValue4
  t9 := Tryz.underlying9
  a9 := Tryz.isAgg9
  z9 := Tryz.sizeOf9
  v9 := Tryz.zeroValue9
  t20 := Tryz.underlying20
  a20 := Tryz.isAgg20
  z20 := Tryz.sizeOf20
  v20 := Tryz.zeroValue20
  t31 := Tryz.underlying33
  a31 := Tryz.isAgg33
  z31 := Tryz.sizeOf33
  v31 := Tryz.zeroValue33
  t37 := Tryz.underlying56
  a37 := Tryz.isAgg56
  z37 := Tryz.sizeOf56
  v37 := Tryz.zeroValue56
  t70 := Tryz.underlying55
  a70 := Tryz.isAgg55
  z70 := Tryz.sizeOf55
  v70 := Tryz.zeroValue55
  t72 := Tryz.underlying58
  a72 := Tryz.isAgg58
  z72 := Tryz.sizeOf58
  v72 := Tryz.zeroValue58
  t75 := Tryz.underlying61
  a75 := Tryz.isAgg61
  z75 := Tryz.sizeOf61
  v75 := Tryz.zeroValue61
  t76 := Tryz.underlying62
  a76 := Tryz.isAgg62
  z76 := Tryz.sizeOf62
  v76 := Tryz.zeroValue62
  t127 := Tryz.underlying85
  a127 := Tryz.isAgg85
  z127 := Tryz.sizeOf85
  v127 := Tryz.zeroValue85
  t164 := Tryz.underlying113
  a164 := Tryz.isAgg113
  z164 := Tryz.sizeOf113
  v164 := Tryz.zeroValue113 }
end Go.Proofs
/- strings.Join, whatever the number of its texts. -/


namespace Go.Proofs.YtmmijmhdbpldpaaGreatDoor
open Go.RowKit
theorem bldExtraJ : Builder.Extra Tryz.prog Tryz.layJN_ren where
  sizeBuilder := by kernel_rfl
  liesBuilder := by kernel_rfl
  t5 := Tryz.underlying5
  a5 := Tryz.isAgg5
  z5 := Tryz.sizeOf5
  v5 := Tryz.zeroValue5
  infoByte := by kernel_rfl
  cellsByte := by kernel_rfl
  sizeByte := by kernel_rfl
  neB5 := by decide
theorem join_any (bk o c : Nat) (xs : List ByteArray) (sep : ByteArray) (w : World) (hcells : ∀ (j : Nat) x, xs[j]? = some x → w.cell? ⟨bk, o + j, none⟩ = some (.string x)) (hbk : bk < w.heap.size) (hN : xs.length ≤ 1000000) (hcap : xs.length ≤ c)
    (hlen : (Lib.join (xs.map (·.data.toList)) sep.data.toList).length ≤ 1000000) :
    Calls Tryz.prog 169 #[.slice (some ⟨bk, o, none⟩) xs.length c, .string sep] w fun e w' => e = .returned (.string ⟨(Lib.join (xs.map (·.data.toList)) sep.data.toList).toArray⟩) ∧ Below w.heap.size w w' :=
  Any.strings_Join Tryz.layJN bldExtraJ bk o c xs sep w hcells hbk (by omega) hcap (by omega)
end Go.Proofs.YtmmijmhdbpldpaaGreatDoor
