/- Escaping for HTML: the pairs, put in; the law's own function. -/
import Derived.Test.YtmcjhcfhglfmlaaGreatDoorHTML
import Derived.Test.YtmcjhcfhglfmlaaGreatDoorLawBreak0
namespace Go.Proofs.YtmcjhcfhglfmlaaGreatDoor
open Go.RowKit
/-- What stands for a byte in HTML. -/
def esc1 (c : UInt8) : List UInt8 := if c = 34 then [38, 113, 117, 111, 116, 59] else if c = 38 then [38, 97, 109, 112, 59] else if c = 60 then [38, 108, 116, 59] else if c = 62 then [38, 103, 116, 59] else [c]
def esc (l : List UInt8) : List UInt8 := l.flatMap esc1
theorem esc_snoc (l : List UInt8) (c : UInt8) : esc (l ++ [c]) = esc l ++ esc1 c := by simp [esc]
theorem esc1_len (c : UInt8) : (esc1 c).length ≤ 6 := by
  unfold esc1
  repeat' split
  all_goals simp
theorem esc_len (l : List UInt8) : (esc l).length ≤ 6 * l.length := by
  induction l with
  | nil => simp [esc]
  | cons a l ih =>
    have := esc1_len a
    simp only [esc, List.flatMap_cons, List.length_append, List.length_cons] at ih ⊢
    omega
theorem esc_take (l : List UInt8) (i : Nat) (h : i < l.length) : esc (l.take (i + 1)) = esc (l.take i) ++ esc1 (l[i]'h) := by
  rw [List.take_add_one, List.getElem?_eq_getElem h]
  exact esc_snoc _ _
theorem extract_one (s : ByteArray) (i : Nat) (h : i < s.size) : s.extract i (i + 1) = ⟨#[s.data.toList[i]'(by rw [← Lib.size_eq]; exact h)]⟩ := by
  have hi : i < s.data.toList.length := by rw [← Lib.size_eq]; exact h
  rw [Lib.extract_eq, List.drop_eq_getElem_cons hi, show i + 1 - i = 1 from by omega]
  rfl
theorem esc1_other {c : UInt8} {z : Int} (hz : z = (c.toNat : Int)) (h34 : ¬ z = 34) (h38 : ¬ z = 38) (h60 : ¬ z = 60) (h62 : ¬ z = 62) : esc1 c = [c] := by
  unfold esc1
  rw [if_neg (fun e => h34 (by rw [hz, e]; rfl)), if_neg (fun e => h38 (by rw [hz, e]; rfl)), if_neg (fun e => h60 (by rw [hz, e]; rfl)), if_neg (fun e => h62 (by rw [hz, e]; rfl))]
def EscR (s : ByteArray) (t3 t4 : Value) : Prop := ∃ i : Nat, i ≤ s.size ∧ t4 = .int .i64 i ∧ t3 = .string ⟨(esc (s.data.toList.take i)).toArray⟩
set_option maxHeartbeats 800000 in
theorem escapeHTML_any (s : ByteArray) (w : World) (hs : s.size ≤ 1000000) :
    Calls Tryz.prog 20 #[.string s] w fun e w' => e = .returned (.string ⟨(esc s.data.toList).toArray⟩) ∧ w = w' := by
  have hb := get_bt s
  have HL := hid (Lib.size_eq s)
  go_enter Tryz.func20, Tryz.ntmps20
  go_wp2
  go_loop [3, 4] (fun t3 t4 => EscR s t3 t4) (fun _ t4 => s.size - (intOf t4).toNat)
  case atStart => exact ⟨0, Nat.zero_le _, rfl, rfl⟩
  case round =>
    obtain ⟨i, hi, rfl, rfl⟩ := hrel
    by_cases hlt : i < s.size
    · have hl : i < s.data.toList.length := by rw [← HL.out]; exact hlt
      have het := esc_take _ i hl
      have hbt : bt s i = ((s.data.toList[i]'hl).toNat : Int) := by unfold bt; rw [dif_pos hlt]; rfl
      have hel := esc_len (s.data.toList.take i)
      have htl : (s.data.toList.take i).length = i := by rw [List.length_take]; omega
      rw [htl] at hel
      have HET := hid het
      clear het htl
      have hex := hid (extract_one s i hlt)
      generalize esc (s.data.toList.take i) = ls at HET hel ⊢
      generalize s.data.toList[i]'hl = c at HET hbt hex
      have hc := fun (n : UInt8) (h : bt s i = (n.toNat : Int)) => (UInt8.toNat_inj.1 (by omega) : c = n)
      have HC := hid hc
      clear hc
      by_cases h38 : bt s i = 38
      · have he := hid (show esc1 c = [38, 97, 109, 112, 59] by rw [HC.out 38 h38]; rfl)
        go_wp2
        go_round
        case rel => exact ⟨i + 1, by omega, by go_num, by rw [HET.out, he.out]; exact congrArg Value.string (cat_lists ls _)⟩
        case measure => simp [intOf]; omega
      by_cases h60 : bt s i = 60
      · have he := hid (show esc1 c = [38, 108, 116, 59] by rw [HC.out 60 h60]; rfl)
        go_wp2
        go_round
        case rel => exact ⟨i + 1, by omega, by go_num, by rw [HET.out, he.out]; exact congrArg Value.string (cat_lists ls _)⟩
        case measure => simp [intOf]; omega
      by_cases h62 : bt s i = 62
      · have he := hid (show esc1 c = [38, 103, 116, 59] by rw [HC.out 62 h62]; rfl)
        go_wp2
        go_round
        case rel => exact ⟨i + 1, by omega, by go_num, by rw [HET.out, he.out]; exact congrArg Value.string (cat_lists ls _)⟩
        case measure => simp [intOf]; omega
      by_cases h34 : bt s i = 34
      · have he := hid (show esc1 c = [38, 113, 117, 111, 116, 59] by rw [HC.out 34 h34]; rfl)
        go_wp2
        go_round
        case rel => exact ⟨i + 1, by omega, by go_num, by rw [HET.out, he.out]; exact congrArg Value.string (cat_lists ls _)⟩
        case measure => simp [intOf]; omega
      · have he := hid (esc1_other hbt h34 h38 h60 h62)
        have b1 : (bt s i == 38) = false := by simpa using h38
        have b2 : (bt s i == 60) = false := by simpa using h60
        have b3 : (bt s i == 62) = false := by simpa using h62
        have b4 : (bt s i == 34) = false := by simpa using h34
        go_wp2
        go_round
        case rel => exact ⟨i + 1, by omega, by go_num, by rw [HET.out, he.out, hex.out]; exact congrArg Value.string (cat_lists ls [c])⟩
        case measure => simp [intOf]; omega
    · obtain rfl : i = s.size := by omega
      have ht : s.data.toList.take s.size = s.data.toList := List.take_of_length_le (by rw [HL.out]; exact Nat.le_refl _)
      have HT := hid ht
      clear ht
      go_wp2
      go_ret
      exact ⟨ret_str (by rw [HT.out]), rfl⟩
def pairsC : Array Value := #[.string ⟨#[34]⟩, .string ⟨#[38, 113, 117, 111, 116, 59]⟩, .string ⟨#[38]⟩, .string ⟨#[38, 97, 109, 112, 59]⟩, .string ⟨#[60]⟩, .string ⟨#[38, 108, 116, 59]⟩, .string ⟨#[62]⟩, .string ⟨#[38, 103, 116, 59]⟩]
set_option maxRecDepth 20000 in
theorem htmlEscaper_any (w : World) : Calls Tryz.prog 260 #[] w fun e w' => ∃ n, e = .returned (.slice (some ⟨n, 0, none⟩) 8 8) ∧ w.heap.size ≤ n ∧ Blk w' n 9 pairsC ∧ Below w.heap.size w w' := by
  go_enter Tryz.func260, Tryz.ntmps260
  go_wp2
  go_ret
  exact ⟨_, rfl, Nat.le_refl _, Blk.new _ _ _, (Below.refl _ _).alloc (Nat.le_refl _) _⟩
/-- One byte written into a buffer. -/
theorem write_byte (B b : Nat) (bs : List UInt8) (c : UInt8) (w : World) (h : IsBuf B b bs w) (hB : B ≤ w.heap.size) (_ : bs.length + 1 ≤ 20000000) :
    Calls Tryz.prog 262 #[.pointer (some ⟨b, 0, none⟩), .int .u8 (c.toNat : Int)] w fun e w' => e = .returned .nilIface ∧ IsBuf B b (bs ++ [c]) w' ∧ Below B w w' ∧ Kept b w w' := by
  have hbl : (Lib.byteCells bs).length = bs.length := Lib.byteCells_length _
  refine Calls.mono (Any.Buffer_WriteByte_kept Tryz.layWB B b (Lib.byteCells bs) (c.toNat : Int) w h hB (Lib.byteCells_one _) (by rw [hbl]; omega)) ?_
  rintro e w' ⟨rfl, i, b1, k⟩
  refine ⟨rfl, ?_, b1, k⟩
  unfold IsBuf
  rw [Lib.byteCells_append]
  exact i
def PairsR (B b : Nat) (bs : List UInt8) (s : ByteArray) (w : World) (t6 : Value) (wr : World) : Prop :=
  ∃ i : Nat, i ≤ s.size ∧ t6 = .int .i64 i ∧ IsBuf B b (bs ++ esc (s.data.toList.take i)) wr ∧ Below B w wr ∧ Kept b w wr
set_option maxRecDepth 20000 in
set_option maxHeartbeats 4000000 in
theorem pairs_write (B b n : Nat) (bs : List UInt8) (s : ByteArray) (w : World) (hn : Blk w n 9 pairsC) (hbuf : IsBuf B b bs w) (hB : B ≤ w.heap.size) (hs : s.size ≤ 100000) (hl : bs.length ≤ 1000000) :
    Calls Tryz.prog 261 #[.slice (some ⟨n, 0, none⟩) 8 8, .pointer (some ⟨b, 0, none⟩), .string s] w (PrintP B b bs (esc s.data.toList) w) := by
  have hb := get_bt s
  have e34 : ∀ h, ((((ByteArray.mk #[34])[0]'h).toNat : Nat) : Int) = 34 := fun _ => rfl
  have e38 : ∀ h, ((((ByteArray.mk #[38])[0]'h).toNat : Nat) : Int) = 38 := fun _ => rfl
  have e60 : ∀ h, ((((ByteArray.mk #[60])[0]'h).toNat : Nat) : Int) = 60 := fun _ => rfl
  have e62 : ∀ h, ((((ByteArray.mk #[62])[0]'h).toNat : Nat) : Int) = 62 := fun _ => rfl
  have HL := hid (Lib.size_eq s)
  have HBUF := hid hbuf
  have hnb : n ≠ b := by
    obtain ⟨cs, hcs⟩ := hbuf.blk
    exact Blk.ne_ hn hcs (by decide)
  have HN := hid hn
  clear hbuf hn
  go_enter Tryz.func261, Tryz.ntmps261
  go_wp2_with fail
  go_step3
  go_wp2_with fail
  go_step3
  go_wp2_with fail
  go_loopw [6] (fun t6 wr => PairsR B b bs s w t6 wr) (fun t6 _ => s.size - (intOf t6).toNat)
  case atStart => exact ⟨0, Nat.zero_le _, rfl, by simpa [esc] using HBUF.out, Below.refl _ _, Lib.OthersKept.refl _ _ _⟩
  case round =>
    obtain ⟨i, hi, rfl, hbf, hbel, hk⟩ := hrel
    by_cases hlt : i < s.size
    · have hll : i < s.data.toList.length := by rw [← HL.out]; exact hlt
      have het := esc_take _ i hll
      have hbt : bt s i = ((s.data.toList[i]'hll).toNat : Int) := by unfold bt; rw [dif_pos hlt]; rfl
      have hel := esc_len (s.data.toList.take i)
      have htl : (s.data.toList.take i).length = i := by rw [List.length_take]; omega
      rw [htl] at hel
      have HET := hid het
      clear het htl
      generalize esc (s.data.toList.take i) = ls at HET hel hbf ⊢
      generalize s.data.toList[i]'hll = c at HET hbt
      have hc := fun (n : UInt8) (h : bt s i = (n.toNat : Int)) => (UInt8.toNat_inj.1 (by omega) : c = n)
      have HC := hid hc
      have hcells := Blk.kept HN.out hk hnb (by decide)
      unfold pairsC at hcells
      have q0 := hcells.at_ 0 rfl
      have q1 := hcells.at_ 1 rfl
      have q2 := hcells.at_ 2 rfl
      have q3 := hcells.at_ 3 rfl
      have q4 := hcells.at_ 4 rfl
      have q5 := hcells.at_ 5 rfl
      have q6 := hcells.at_ 6 rfl
      have q7 := hcells.at_ 7 rfl
      have hBw : B ≤ wr.heap.size := Nat.le_trans hB hbel.size
      have HBF := hid hbf
      have HBL := hid hbel
      have HK := hid hk
      have HBT := hid hbt
      clear hc hcells hbf hbel hk hbt
      by_cases h34 : bt s i = 34
      · have he := hid (show esc1 c = [38, 113, 117, 111, 116, 59] by rw [HC.out 34 h34]; rfl)
        go_wp2_with fail
        refine wp_loop_rounds 1 ?_
        rw [rounds_succ]
        go_wp2_with fail
        go_quiet (fail)
        go_wp2_with fail
        refine (write_str B b (bs ++ ls) _ _ ?_ ?_ ?_).mono ?_
        · exact HBF.out
        · exact hBw
        · rw [List.length_append]
          show bs.length + ls.length + 6 ≤ 2000000
          omega
        rintro e w3 ⟨rfl, h3, b3, k3⟩
        have HB3 := hid h3
        have HL3 := hid b3
        have HK3 := hid k3
        clear h3 b3 k3
        go_wp2_with fail
        go_roundw
        case rel => exact ⟨i + 1, by omega, by go_num, by rw [HET.out, he.out, ← List.append_assoc]; exact HB3.out, (below_drewN HBL.out _).trans HL3.out, Lib.OthersKept.trans HK.out (show Lib.OthersKept _ _ wr w3 from HK3.out)⟩
        case measure => simp [intOf]; omega
      by_cases h38 : bt s i = 38
      · have he := hid (show esc1 c = [38, 97, 109, 112, 59] by rw [HC.out 38 h38]; rfl)
        have b34 : (bt s i == 34) = false := by simpa using h34
        go_wp2_with fail
        refine wp_loop_rounds 2 ?_
        rw [rounds_succ]
        go_wp2_with fail
        go_quiet (fail)
        go_wp2_with fail
        rw [rounds_succ]
        go_wp2_with fail
        go_quiet (fail)
        go_wp2_with fail
        refine (write_str B b (bs ++ ls) _ _ ?_ ?_ ?_).mono ?_
        · exact HBF.out
        · exact hBw
        · rw [List.length_append]
          show bs.length + ls.length + 5 ≤ 2000000
          omega
        rintro e w3 ⟨rfl, h3, b3, k3⟩
        have HB3 := hid h3
        have HL3 := hid b3
        have HK3 := hid k3
        clear h3 b3 k3
        go_wp2_with fail
        go_roundw
        case rel => exact ⟨i + 1, by omega, by go_num, by rw [HET.out, he.out, ← List.append_assoc]; exact HB3.out, (below_drewN HBL.out _).trans HL3.out, Lib.OthersKept.trans HK.out (show Lib.OthersKept _ _ wr w3 from HK3.out)⟩
        case measure => simp [intOf]; omega
      by_cases h60 : bt s i = 60
      · have he := hid (show esc1 c = [38, 108, 116, 59] by rw [HC.out 60 h60]; rfl)
        have b34 : (bt s i == 34) = false := by simpa using h34
        have b38 : (bt s i == 38) = false := by simpa using h38
        go_wp2_with fail
        refine wp_loop_rounds 3 ?_
        rw [rounds_succ]
        go_wp2_with fail
        go_quiet (fail)
        go_wp2_with fail
        rw [rounds_succ]
        go_wp2_with fail
        go_quiet (fail)
        go_wp2_with fail
        rw [rounds_succ]
        go_wp2_with fail
        go_quiet (fail)
        go_wp2_with fail
        refine (write_str B b (bs ++ ls) _ _ ?_ ?_ ?_).mono ?_
        · exact HBF.out
        · exact hBw
        · rw [List.length_append]
          show bs.length + ls.length + 4 ≤ 2000000
          omega
        rintro e w3 ⟨rfl, h3, b3, k3⟩
        have HB3 := hid h3
        have HL3 := hid b3
        have HK3 := hid k3
        clear h3 b3 k3
        go_wp2_with fail
        go_roundw
        case rel => exact ⟨i + 1, by omega, by go_num, by rw [HET.out, he.out, ← List.append_assoc]; exact HB3.out, (below_drewN HBL.out _).trans HL3.out, Lib.OthersKept.trans HK.out (show Lib.OthersKept _ _ wr w3 from HK3.out)⟩
        case measure => simp [intOf]; omega
      by_cases h62 : bt s i = 62
      · have he := hid (show esc1 c = [38, 103, 116, 59] by rw [HC.out 62 h62]; rfl)
        have b34 : (bt s i == 34) = false := by simpa using h34
        have b38 : (bt s i == 38) = false := by simpa using h38
        have b60 : (bt s i == 60) = false := by simpa using h60
        go_wp2_with fail
        refine wp_loop_rounds 4 ?_
        rw [rounds_succ]
        go_wp2_with fail
        go_quiet (fail)
        go_wp2_with fail
        rw [rounds_succ]
        go_wp2_with fail
        go_quiet (fail)
        go_wp2_with fail
        rw [rounds_succ]
        go_wp2_with fail
        go_quiet (fail)
        go_wp2_with fail
        rw [rounds_succ]
        go_wp2_with fail
        go_quiet (fail)
        go_wp2_with fail
        refine (write_str B b (bs ++ ls) _ _ ?_ ?_ ?_).mono ?_
        · exact HBF.out
        · exact hBw
        · rw [List.length_append]
          show bs.length + ls.length + 4 ≤ 2000000
          omega
        rintro e w3 ⟨rfl, h3, b3, k3⟩
        have HB3 := hid h3
        have HL3 := hid b3
        have HK3 := hid k3
        clear h3 b3 k3
        go_wp2_with fail
        go_roundw
        case rel => exact ⟨i + 1, by omega, by go_num, by rw [HET.out, he.out, ← List.append_assoc]; exact HB3.out, (below_drewN HBL.out _).trans HL3.out, Lib.OthersKept.trans HK.out (show Lib.OthersKept _ _ wr w3 from HK3.out)⟩
        case measure => simp [intOf]; omega
      · have he := hid (esc1_other HBT.out h34 h38 h60 h62)
        have b34 : (bt s i == 34) = false := by simpa using h34
        have b38 : (bt s i == 38) = false := by simpa using h38
        have b60 : (bt s i == 60) = false := by simpa using h60
        have b62 : (bt s i == 62) = false := by simpa using h62
        go_wp2_with fail
        refine wp_loop_rounds 5 ?_
        rw [rounds_succ]
        go_wp2_with fail
        go_quiet (fail)
        go_wp2_with fail
        rw [rounds_succ]
        go_wp2_with fail
        go_quiet (fail)
        go_wp2_with fail
        rw [rounds_succ]
        go_wp2_with fail
        go_quiet (fail)
        go_wp2_with fail
        rw [rounds_succ]
        go_wp2_with fail
        go_quiet (fail)
        go_wp2_with fail
        rw [rounds_succ]
        go_wp2_with fail
        rw [HBT.out]
        refine (write_byte B b (bs ++ ls) c _ ?_ ?_ ?_).mono ?_
        · exact HBF.out
        · exact hBw
        · rw [List.length_append]
          omega
        rintro e w3 ⟨rfl, h3, b3, k3⟩
        have HB3 := hid h3
        have HL3 := hid b3
        have HK3 := hid k3
        clear h3 b3 k3
        go_wp2_with fail
        go_roundw
        case rel => exact ⟨i + 1, by omega, by go_num, by rw [HET.out, he.out, ← List.append_assoc]; exact HB3.out, (below_drewN HBL.out _).trans HL3.out, Lib.OthersKept.trans HK.out (show Lib.OthersKept _ _ wr w3 from HK3.out)⟩
        case measure => simp [intOf]; omega
    · obtain rfl : i = s.size := by omega
      have ht : s.data.toList.take s.size = s.data.toList := List.take_of_length_le (by rw [HL.out]; exact Nat.le_refl _)
      rw [ht] at hbf
      have HBF := hid hbf
      have HBL := hid hbel
      have HK := hid hk
      clear ht hbf hbel hk
      go_wp2_with fail
      all_goals (try rw [Exit.noGoto_normal])
      go_end0
      exact ⟨rfl, HBF.out, HBL.out, HK.out⟩
set_option maxRecDepth 20000 in
set_option maxHeartbeats 800000 in
theorem replace_any (n : Nat) (s : ByteArray) (w : World) (hn : Blk w n 9 pairsC) (hs : s.size ≤ 100000) :
    Calls Tryz.prog 268 #[.slice (some ⟨n, 0, none⟩) 8 8, .string s] w fun e w' => e = .returned (.string ⟨(esc s.data.toList).toArray⟩) ∧ Below w.heap.size w w' := by
  have hw := hid (pairs_write w.heap.size w.heap.size n [] s (w.alloc (.cells #[.slice none 0 0, .int .i64 0, .int .i8 0] 72)) (Blk.alloc hn _) (Lib.fresh_isBuffer _ _ _) (by simp) hs (by simp))
  clear hn
  go_enter Tryz.func268, Tryz.ntmps268
  go_wp2_with fail
  refine hw.out.mono ?_
  rintro e w1 ⟨rfl, hb1, hbl1, _⟩
  have HB1 := hid hb1
  have HBL1 := hid hbl1
  clear hb1 hbl1
  go_wp2_with fail
  refine (buf_str w.heap.size w.heap.size _ _ HB1.out).mono ?_
  rintro e w2 ⟨rfl, n2, rfl⟩
  go_wp2_with fail
  go_ret
  exact ⟨rfl, below_drewN (((Below.refl _ _).alloc (Nat.le_refl _) _).trans HBL1.out) n2⟩
end Go.Proofs.YtmcjhcfhglfmlaaGreatDoor
