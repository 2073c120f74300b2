/- Texts of this proof, joined: Labels of links: where there is none; a label's normal form, A label's normal form; a link's destination, Labels of links, in general: how one is read, and its normal form. (Printed by wip/gen_lab.py.). -/
import Derived.Test.YtmmijmhdbpldpaaGreatDoorCInt11
import Derived.Test.YtmmijmhdbpldpaaGreatDoorCInt01
import Derived.Test.YtmmijmhdbpldpaaGreatDoorCInt05
import Derived.Test.YtmmijmhdbpldpaaGreatDoorCInt02
import Derived.Deep.QuietTactic
import Derived.Test.YtmmijmhdbpldpaaGreatDoorCInt10
import Derived.WideMake
import Derived.Test.YtmmijmhdbpldpaaGreatDoorCInt08
/- Labels of links: where there is none; a label's normal form. -/





namespace Go.Proofs.YtmmijmhdbpldpaaGreatDoor
open Go.RowKit
/-- A letter or digit of the laws' words. -/
def LDw (z : Int) : Prop := z = 97 ∨ z = 98 ∨ z = 122 ∨ z = 48 ∨ z = 49 ∨ z = 57
theorem LDw.eqs {z : Int} (h : LDw z) : (z == 32) = false ∧ (z == 9) = false ∧ (z == 10) = false ∧ (z == 91) = false ∧ (z == 93) = false ∧ (z == 92) = false ∧ (z == 58) = false := by
  rcases h with rfl | rfl | rfl | rfl | rfl | rfl <;> exact ⟨rfl, rfl, rfl, rfl, rfl, rfl, rfl⟩
theorem ext_all (s : ByteArray) : s.extract 0 s.size = s := by
  rw [extract_mk, List.drop_zero, List.take_of_length_le (by rw [← Lib.size_eq]; exact Nat.le_refl _)]
theorem trimSTN_self (s : ByteArray) (n : Nat) (w : World) (hn : s.size = n + 1) (hs : s.size ≤ 100000) (h0 : LDw (bt s 0)) (h1 : LDw (bt s n)) :
    Calls Tryz.prog 167 #[.string s] w fun e w' => e = .returned (.string s) ∧ w = w' := by
  have hb := get_bt s
  obtain ⟨a1, a2, a3, _⟩ := h0.eqs
  obtain ⟨b1, b2, b3, _⟩ := h1.eqs
  have he := ext_all s
  rw [hn] at he
  clear h0 h1
  go_enter Tryz.func167, Tryz.ntmps167
  go_wp2_with fail
  refine wp_loop_rounds 1 ?_
  rw [rounds_succ]
  go_wp2_with fail
  refine wp_loop_rounds 1 ?_
  rw [rounds_succ]
  go_wp2_with fail
  go_ret
  exact ⟨rfl, rfl⟩
theorem label_nest (p : Value) (s : ByteArray) (i : Nat) (w : World) (hs : s.size ≤ 1000000) (hi : i + 1 < s.size) (h0 : bt s i = 91) (h1 : bt s (i + 1) = 91) :
    Calls Tryz.prog 117 #[p, .string s, .int .i64 i] w fun e w' => e = .returned (.tuple #[.string ⟨#[]⟩, .int .i64 0, .bool false]) ∧ w = w' := by
  have hb := get_bt s
  have e0 : (bt s i == 91) = true := by simpa using h0
  have e0' : (bt s i != 91) = false := by simp [bne, e0]
  have e1 : (bt s (i + 1) == 91) = true := by simpa using h1
  have e2 : (bt s (i + 1) == 93) = false := by rw [h1]; rfl
  clear h0 h1
  go_enter Tryz.func117, Tryz.ntmps117
  go_wp2_with fail
  refine wp_loop_rounds 1 ?_
  rw [rounds_succ]
  go_wp2_with fail
  refine bodyPost_ret (by simp [results, Tryz.results117, go_sem]; try rfl) rfl ?_
  exact ⟨rfl, rfl⟩
set_option maxHeartbeats 800000 in
theorem label_word (p : Value) (s : ByteArray) (i n : Nat) (w : World) (hs : s.size ≤ 100000) (hn : n ≤ 100) (hi : i + 2 + n < s.size) (h0 : bt s i = 91) (h1 : ∀ m, i < m → m < i + 2 + n → LDw (bt s m)) (h2 : bt s (i + 2 + n) = 93) :
    Calls Tryz.prog 117 #[p, .string s, .int .i64 i] w fun e w' => e = .returned (.tuple #[.string (s.extract (i + 1) (i + 2 + n)), .int .i64 ((i : Int) + 2 + n + 1), .bool true]) ∧ w = w' := by
  have hb := get_bt s
  have e0 : (bt s i == 91) = true := by simpa using h0
  have e0' : (bt s i != 91) = false := by simp [bne, e0]
  have e2 : (bt s (i + 2 + n) == 93) = true := by simpa using h2
  have hxs : (s.extract (i + 1) (i + 2 + n)).size = n + 1 := by rw [ByteArray.size_extract]; omega
  have hbe : ∀ m, m < n + 1 → bt (s.extract (i + 1) (i + 2 + n)) m = bt s (i + 1 + m) := fun m hm => by
    have e : s = ⟨s.data.toList.toArray⟩ := ByteArray.ext Array.toArray_toList.symm
    have e3 : bt s (i + 1 + m) = bt ⟨s.data.toList.toArray⟩ (i + 1 + m) := by rw [← e]
    rw [e3, extract_mk, bt_list, bt_list, List.getElem?_drop, List.getElem?_take, if_pos (by omega)]
  have HT := hid (trimSTN_self (s.extract (i + 1) (i + 2 + n)) n w hxs (by omega) (by rw [hbe 0 (by omega)]; exact h1 _ (by omega) (by omega)) (by rw [hbe n (by omega)]; exact h1 _ (by omega) (by omega)))
  have hne : (s.extract (i + 1) (i + 2 + n)).toList.isEmpty = false := by
    rw [← decide_eq_emptyBytes]
    refine decide_eq_false (fun e => ?_)
    rw [e] at hxs
    have : ByteArray.empty.size = 0 := rfl
    omega
  have H1 := hid h1
  clear h0 h1 h2 hbe hxs
  go_enter Tryz.func117, Tryz.ntmps117
  go_wp2_with fail
  go_loopw [9] (fun t9 wr => ∃ m : Nat, t9 = .int .i64 m ∧ i < m ∧ m ≤ i + 2 + n ∧ wr = w) (fun t9 _ => i + 3 + n - (intOf t9).toNat)
  case atStart => exact ⟨i + 1, by go_num, by omega, by omega, rfl⟩
  case round =>
    obtain ⟨m, rfl, hm1, hm2, rfl⟩ := hrel
    by_cases hlt : m < i + 2 + n
    · obtain ⟨_, _, _, z91, z93, z92, _⟩ := (H1.out m hm1 hlt).eqs
      go_wp2_with fail
      go_roundw
      case rel => exact ⟨m + 1, by go_num, by omega, by omega, trivial⟩
      case measure => simp [intOf]; omega
    · obtain rfl : m = i + 2 + n := by omega
      go_wp2_with fail
      refine HT.out.mono ?_
      rintro e w1 ⟨rfl, rfl⟩
      go_wp2_with fail
      refine bodyPost_ret (by simp [results, Tryz.results117, go_sem]; try rfl) rfl ?_
      exact ⟨rfl, rfl⟩
set_option maxRecDepth 20000 in
/-- A text that begins with brackets around a word has no definition at its head. -/
theorem refNo_nest (T : List UInt8) (hl : T.length ≤ 100000) (h1 : 1 < T.length) (h0 : bt ⟨T.toArray⟩ 0 = 91) (h2 : bt ⟨T.toArray⟩ 1 = 91) : RefNo T := by
  intro g w
  have hz : (ByteArray.mk T.toArray).size = T.length := List.size_toArray ..
  have ta := ta_bs g
  have HS := hid (skipSpace_no ⟨T.toArray⟩ 0 w (by omega) (by omega) (by rw [h0]; decide))
  have HL := hid (label_nest (.pointer (some ⟨g, 0, none⟩)) ⟨T.toArray⟩ 0 w (by omega) (by omega) h0 h2)
  clear h0 h2
  go_enter Tryz.func283, Tryz.ntmps283
  go_wp2_with fail
  refine HS.out.mono ?_
  rintro e w1 ⟨rfl, rfl⟩
  go_wp2_with fail
  refine HL.out.mono ?_
  rintro e w1 ⟨rfl, rfl⟩
  go_wp2_with fail
  go_ret2
  exact ⟨rfl, rfl⟩
set_option maxRecDepth 20000 in
theorem refNo_word (T : List UInt8) (n : Nat) (hl : T.length ≤ 100000) (hn : n ≤ 100) (hi : 3 + n < T.length) (h0 : bt ⟨T.toArray⟩ 0 = 91) (h1 : ∀ m, 0 < m → m < 2 + n → LDw (bt ⟨T.toArray⟩ m)) (h2 : bt ⟨T.toArray⟩ (2 + n) = 93) (h3 : bt ⟨T.toArray⟩ (3 + n) ≠ 58) : RefNo T := by
  intro g w
  have hz : (ByteArray.mk T.toArray).size = T.length := List.size_toArray ..
  have hb := get_bt ⟨T.toArray⟩
  have ta := ta_bs g
  have HS := hid (skipSpace_no ⟨T.toArray⟩ 0 w (by omega) (by omega) (by rw [h0]; decide))
  have HL := hid (label_word (.pointer (some ⟨g, 0, none⟩)) ⟨T.toArray⟩ 0 n w (by omega) hn (by omega) h0 (fun m m1 m2 => h1 m m1 (by omega)) (by rw [Nat.zero_add]; exact h2))
  have e3 : (bt ⟨T.toArray⟩ (3 + n) == 58) = false := by simpa using h3
  have e3' : (bt ⟨T.toArray⟩ (3 + n) != 58) = true := by simp [bne, e3]
  have ei : ((0 : Nat) : Int) + 2 + n + 1 = ((3 + n : Nat) : Int) := by omega
  rw [ei] at HL
  clear h0 h1 h2 h3 ei
  go_enter Tryz.func283, Tryz.ntmps283
  go_wp2_with fail
  refine HS.out.mono ?_
  rintro e w1 ⟨rfl, rfl⟩
  go_wp2_with fail
  refine HL.out.mono ?_
  rintro e w1 ⟨rfl, rfl⟩
  go_wp2_with fail
  go_ret2
  exact ⟨rfl, rfl⟩
end Go.Proofs.YtmmijmhdbpldpaaGreatDoor
/- A label's normal form; a link's destination. -/



namespace Go.Proofs.YtmmijmhdbpldpaaGreatDoor
open Go.RowKit
theorem zzHas_no (s : ByteArray) (c : UInt8) (w : World) (hs : s.size ≤ 100000) (h : c ∉ s.data.toList) : Calls Tryz.prog 50 #[.string s, .string ⟨#[c]⟩] w fun e w' => e = .returned (.bool false) ∧ w = w' := by
  have hi : idxB c s.data.toList = -1 := idxB_not _ _ h
  refine (zzContains1 s c w (by omega)).mono ?_
  rintro e w' ⟨rfl, rfl⟩
  rw [hi]
  exact ⟨rfl, rfl⟩
theorem zzHas_yes (s : ByteArray) (c : UInt8) (w : World) (hs : s.size ≤ 100000) (h : s.data.toList[0]? = some c) : Calls Tryz.prog 50 #[.string s, .string ⟨#[c]⟩] w fun e w' => e = .returned (.bool true) ∧ w = w' := by
  have hi : 0 ≤ idxB c s.data.toList := by
    rw [idxB_at _ _ 0 (fun j hj => by omega) h]
    decide
  refine (zzContains1 s c w (by omega)).mono ?_
  rintro e w' ⟨rfl, rfl⟩
  rw [decide_eq_true hi]
  exact ⟨rfl, rfl⟩
theorem normLabel_br (s : ByteArray) (w : World) (hs : s.size ≤ 100000) (h : s.data.toList[0]? = some 91) : Calls Tryz.prog 118 #[.string s] w fun e w' => e = .returned (.string ⟨#[]⟩) ∧ w = w' := by
  have HZ := hid (zzHas_yes s 91 w hs h)
  clear h
  go_enter Tryz.func118, Tryz.ntmps118
  go_wp2_with fail
  refine HZ.out.mono ?_
  rintro e w1 ⟨rfl, rfl⟩
  go_wp2_with fail
  go_ret
  exact ⟨rfl, rfl⟩
def NormR (s : ByteArray) (w : World) (t6 : Value) (wr : World) : Prop := ∃ i : Nat, i ≤ s.size ∧ t6 = .int .i64 i ∧ IsBld w.heap.size w.heap.size (s.data.toList.take i) wr ∧ Below w.heap.size w wr
set_option maxRecDepth 20000 in
set_option maxHeartbeats 1600000 in
theorem normLabel_word (s : ByteArray) (n : Nat) (w : World) (hn : s.size = n + 1) (hs : s.size ≤ 1000) (hc : ∀ m, m < s.size → LDw (bt s m)) (h91 : 91 ∉ s.data.toList) (h93 : 93 ∉ s.data.toList) :
    Calls Tryz.prog 118 #[.string s] w fun e w' => e = .returned (.string s) ∧ Below w.heap.size w w' := by
  have hb := get_bt s
  have HL := hid (Lib.size_eq s)
  have HZ1 := hid (zzHas_no s 91 w (by omega) h91)
  have HZ2 := hid (zzHas_no s 93 w (by omega) h93)
  have HT := hid (trimSTN_self s n w hn (by omega) (hc 0 (by omega)) (hc n (by omega)))
  have HC := hid hc
  have HN := hid hn
  clear hc h91 h93 hn
  go_enter Tryz.func118, Tryz.ntmps118
  go_wp2_with fail
  refine HZ1.out.mono ?_
  rintro e w1 ⟨rfl, rfl⟩
  go_wp2_with fail
  refine HZ2.out.mono ?_
  rintro e w1 ⟨rfl, rfl⟩
  go_wp2_with fail
  refine HT.out.mono ?_
  rintro e w1 ⟨rfl, rfl⟩
  clear HZ1 HZ2 HT
  go_wp2_with fail
  go_loopw [4, 5, 6] (fun t4 t5 t6 wr => t4 = .bool false ∧ t5 = .bool false ∧ NormR s w t6 wr) (fun _ _ t6 _ => s.size - (intOf t6).toNat)
  case atStart => exact ⟨rfl, rfl, 0, Nat.zero_le _, rfl, by unfold IsBld; simpa [Lib.byteCells] using Lib.fresh_isBuilder 58 5 w, (Below.refl _ _).alloc (Nat.le_refl _) _⟩
  case round =>
    obtain ⟨rfl, rfl, i, hi, rfl, hbd, hbe⟩ := hrel
    have hlw : w.heap.size ≤ wr.heap.size := hbe.size
    have HBD := hid hbd
    have HBE := hid hbe
    clear hbd hbe
    by_cases hlt : i < s.size
    · have hll : i < s.data.toList.length := by rw [← HL.out]; exact hlt
      have hbt : bt s i = ((s.data.toList[i]'hll).toNat : Int) := by unfold bt; rw [dif_pos hlt]; rfl
      have htl : (s.data.toList.take i).length ≤ 1000 := by rw [List.length_take]; omega
      have hwb := hid (bld_byte w.heap.size w.heap.size (s.data.toList.take i) (s.data.toList[i]'hll) wr HBD.out hlw (by omega))
      have hT1 := hid (show s.data.toList.take i ++ [s.data.toList[i]'hll] = s.data.toList.take (i + 1) by rw [List.take_add_one, List.getElem?_eq_getElem hll]; rfl)
      rw [← hbt] at hwb
      have hz := HC.out i hlt
      obtain ⟨z32, z9, z10, _⟩ := hz.eqs
      have z65 : ¬ (65 ≤ bt s i ∧ bt s i ≤ 90) := by unfold LDw at hz; omega
      have z128 : bt s i < 128 := by unfold LDw at hz; omega
      generalize s.data.toList[i]'hll = c0 at hwb hT1
      clear hbt hll htl hz
      by_cases z65a : bt s i < 65
      · go_wp2_with fail
        refine hwb.out.mono ?_
        rintro e w2 ⟨rfl, hb2, hl2⟩
        have HB2 := hid hb2
        have HL2 := hid (HBE.out.trans hl2)
        clear hb2 hl2
        go_wp2_with fail
        go_roundw
        case rel => exact ⟨rfl, rfl, i + 1, by omega, by go_num, by rw [← hT1.out]; exact HB2.out, HL2.out⟩
        case measure => simp [intOf]; omega
      · have z90 : 90 < bt s i := by omega
        go_wp2_with fail
        refine hwb.out.mono ?_
        rintro e w2 ⟨rfl, hb2, hl2⟩
        have HB2 := hid hb2
        have HL2 := hid (HBE.out.trans hl2)
        clear hb2 hl2
        go_wp2_with fail
        go_roundw
        case rel => exact ⟨rfl, rfl, i + 1, by omega, by go_num, by rw [← hT1.out]; exact HB2.out, HL2.out⟩
        case measure => simp [intOf]; omega
    · obtain rfl : i = s.size := by omega
      have ht : s.data.toList.take s.size = s.data.toList := List.take_of_length_le (by rw [← HL.out]; exact Nat.le_refl _)
      have HBS := hid (bld_string w.heap.size w.heap.size _ wr HBD.out hlw)
      rw [ht] at HBS
      clear ht
      go_wp2_with fail
      refine HBS.out.mono ?_
      rintro e w2 ⟨rfl, hb2⟩
      have HL2 := hid (HBE.out.trans hb2)
      clear hb2
      go_wp2_with fail
      go_ret
      exact ⟨rfl, HL2.out⟩
theorem linkCorner_no (s : ByteArray) (w : World) (hs : s.size ≤ 100000) (h : ∀ m, m < s.size → bt s m ≠ 37) : Calls Tryz.prog 80 #[.string s] w fun e w' => e = .returned (.bool false) ∧ w = w' := by
  have hb := get_bt s
  have H := hid h
  clear h
  go_enter Tryz.func80, Tryz.ntmps80
  go_wp2_with fail
  go_loopw [3] (fun t3 wr => ∃ m : Nat, t3 = .int .i64 m ∧ m ≤ s.size ∧ wr = w) (fun t3 _ => s.size - (intOf t3).toNat)
  case atStart => exact ⟨0, rfl, Nat.zero_le _, rfl⟩
  case round =>
    obtain ⟨m, rfl, hm, rfl⟩ := hrel
    by_cases hlt : m < s.size
    · have e37 : (bt s m == 37) = false := by simpa using H.out m hlt
      go_wp2_with fail
      go_roundw
      case rel => exact ⟨m + 1, by go_num, hlt, trivial⟩
      case measure => simp [intOf]; omega
    · go_wp2_with fail
      go_ret
      exact ⟨rfl, rfl⟩
theorem mdUnescape_self (s : ByteArray) (w : World) (hs : s.size ≤ 100000) (h1 : 92 ∉ s.data.toList) (h2 : 38 ∉ s.data.toList) : Calls Tryz.prog 165 #[.string s] w fun e w' => e = .returned (.string s) ∧ w = w' := by
  have HZ1 := hid (zzHas_no s 92 w hs h1)
  have HZ2 := hid (zzHas_no s 38 w hs h2)
  clear h1 h2
  go_enter Tryz.func165, Tryz.ntmps165
  go_wp2_with fail
  refine HZ1.out.mono ?_
  rintro e w1 ⟨rfl, rfl⟩
  go_wp2_with fail
  refine HZ2.out.mono ?_
  rintro e w1 ⟨rfl, rfl⟩
  go_wp2_with fail
  go_ret
  exact ⟨rfl, rfl⟩
/-- What stands in the destinations of the laws. -/
def DC (z : Int) : Prop := z = 97 ∨ z = 98 ∨ z = 47 ∨ z = 46
theorem DC.eqs {z : Int} (h : DC z) : (z == 60) = false ∧ (z == 40) = false ∧ (z == 41) = false ∧ (z == 92) = false ∧ (z == 32) = false ∧ (z == 9) = false ∧ (z == 10) = false := by
  rcases h with rfl | rfl | rfl | rfl <;> exact ⟨rfl, rfl, rfl, rfl, rfl, rfl, rfl⟩
set_option maxRecDepth 20000 in
set_option maxHeartbeats 1600000 in
theorem linkDest_any (s : ByteArray) (i k : Nat) (w : World) (hs : s.size ≤ 100000) (hik : i < k) (hk : k < s.size) (hc : ∀ m, i ≤ m → m < k → DC (bt s m)) (h41 : bt s k = 41) (h1 : 92 ∉ (s.extract i k).data.toList) (h2 : 38 ∉ (s.extract i k).data.toList) :
    Calls Tryz.prog 115 #[.string s, .int .i64 i] w fun e w' => e = .returned (.tuple #[.string (s.extract i k), .int .i64 k, .bool true]) ∧ w = w' := by
  have hb := get_bt s
  have e60 := (hc i (Nat.le_refl _) hik).eqs.1
  have e41 : (bt s k == 41) = true := by simpa using h41
  have e40 : (bt s k == 40) = false := by rw [h41]; rfl
  have HU := hid (mdUnescape_self (s.extract i k) w (by rw [ByteArray.size_extract]; omega) h1 h2)
  have HC := hid hc
  clear hc h41 h1 h2
  go_enter Tryz.func115, Tryz.ntmps115
  go_wp2_with fail
  go_step3
  go_wp2_with fail
  go_step3
  go_wp2_with fail
  go_loopw [8, 9] (fun t8 t9 wr => t8 = .int .i64 0 ∧ ∃ m : Nat, t9 = .int .i64 m ∧ i ≤ m ∧ m ≤ k ∧ wr = w) (fun _ t9 _ => k + 1 - (intOf t9).toNat)
  case atStart => exact ⟨rfl, i, rfl, Nat.le_refl _, by omega, rfl⟩
  case round =>
    obtain ⟨rfl, m, rfl, hm1, hm2, rfl⟩ := hrel
    by_cases hlt : m < k
    · obtain ⟨_, z40, z41, z92, z32, z9, z10⟩ := (HC.out m hm1 hlt).eqs
      go_wp2_with fail
      go_roundw
      case rel => exact ⟨rfl, m + 1, by go_num, by omega, by omega, trivial⟩
      case measure => simp [intOf]; omega
    · obtain rfl : m = k := by omega
      go_wp2_with fail
      refine HU.out.mono ?_
      rintro e w1 ⟨rfl, rfl⟩
      go_wp2_with fail
      all_goals (try rw [Exit.noGoto_ret])
      refine bodyPost_ret (by simp [results, Tryz.results115, go_sem]; try rfl) rfl ?_
      exact ⟨rfl, rfl⟩
end Go.Proofs.YtmmijmhdbpldpaaGreatDoor
/- Labels of links, in general: how one is read, and its normal form. (Printed by wip/gen_lab.py.) -/


namespace Go.Proofs.YtmmijmhdbpldpaaGreatDoor
open Go.RowKit
def lowc (c : UInt8) : UInt8 := if 65 ≤ c.toNat ∧ c.toNat ≤ 90 then c + 32 else c
def normGo : Bool → List UInt8 → List UInt8
  | _, [] => []
  | sp, c :: l => if isSN c then normGo true l else (if sp then [32] else []) ++ lowc c :: normGo false l
/-- A label's normal form. -/
def normL (l : List UInt8) : List UInt8 := normGo false (trimNR (trimNL l))
theorem normGo_drop_sp {l : List UInt8} {i : Nat} {c : UInt8} (h : l[i]? = some c) (sp : Bool) (hc : isSN c = true) : normGo sp (l.drop i) = normGo true (l.drop (i + 1)) := by
  have hi := (List.getElem?_eq_some_iff.1 h)
  rw [List.drop_eq_getElem_cons hi.1, hi.2, normGo, if_pos hc]
theorem normGo_drop {l : List UInt8} {i : Nat} {c : UInt8} (h : l[i]? = some c) (sp : Bool) (hc : isSN c = false) : normGo sp (l.drop i) = ((if sp then [32] else []) ++ [lowc c]) ++ normGo false (l.drop (i + 1)) := by
  have hi := (List.getElem?_eq_some_iff.1 h)
  rw [List.drop_eq_getElem_cons hi.1, hi.2, normGo, if_neg (by rw [hc]; decide), List.append_assoc]
  rfl
theorem trimNR_sub {l : List UInt8} {c : UInt8} (h : c ∈ trimNR l) : c ∈ l := by
  unfold trimNR at h
  have := (List.dropWhile_sublist isSN (l := l.reverse)).subset (List.mem_reverse.1 h)
  exact List.mem_reverse.1 this
theorem trimNL_sub {l : List UInt8} {c : UInt8} (h : c ∈ trimNL l) : c ∈ l := (List.dropWhile_sublist isSN (l := l)).subset h
theorem trimN_len (l : List UInt8) : (trimNR (trimNL l)).length ≤ l.length := by
  unfold trimNR trimNL
  have h1 := (List.dropWhile_sublist isSN (l := (l.dropWhile isSN).reverse)).length_le
  have h2 := (List.dropWhile_sublist isSN (l := l)).length_le
  rw [List.length_reverse] at h1 ⊢
  omega
def NormG (s : ByteArray) (w : World) (t4 t5 t6 : Value) (wr : World) : Prop := ∃ (sp : Bool) (i : Nat) (acc : List UInt8), t4 = .bool sp ∧ t5 = .bool false ∧ t6 = .int .i64 i ∧ i ≤ s.size ∧ IsBld w.heap.size w.heap.size acc wr ∧ Below w.heap.size w wr ∧ acc ++ normGo sp (s.data.toList.drop i) = normGo false s.data.toList ∧ acc.length ≤ 2 * i
set_option maxRecDepth 20000 in
set_option maxHeartbeats 32000000 in
theorem normLabel_any (s : ByteArray) (w : World) (hs : s.size ≤ 1000) (h91 : 91 ∉ s.data.toList) (h93 : 93 ∉ s.data.toList) (h128 : ∀ c ∈ s.data.toList, c.toNat < 128) :
    Calls Tryz.prog 118 #[.string s] w fun e w' => e = .returned (.string ⟨(normL s.data.toList).toArray⟩) ∧ Below w.heap.size w w' := by
  have HZ1 := hid (zzHas_no s 91 w (by omega) h91)
  have HZ2 := hid (zzHas_no s 93 w (by omega) h93)
  have hsz := Lib.size_eq s
  have htl := trimN_len s.data.toList
  have HT : Hid (∃ s2 : ByteArray, s2.data.toList = trimNR (trimNL s.data.toList) ∧ Calls Tryz.prog 167 #[.string s] w fun e w' => e = .returned (.string s2) ∧ w = w') := hid ⟨_, by simp, trimSTN_any s w (by omega)⟩
  obtain ⟨s2, hs2, ht⟩ := HT.out
  have h128' : ∀ c ∈ s2.data.toList, c.toNat < 128 := fun c hc => by
    rw [hs2] at hc
    exact h128 c (trimNL_sub (trimNR_sub hc))
  have hsl : s2.data.toList.length ≤ 1000 := by rw [hs2]; omega
  rw [show normL s.data.toList = normGo false s2.data.toList from by rw [hs2]; rfl]
  have HTT := hid ht
  have HC := hid h128'
  have hb := get_bt s2
  have HL := hid (Lib.size_eq s2)
  have hsz2 : s2.size ≤ 1000 := by rw [Lib.size_eq]; exact hsl
  clear ht HT h128 h128' h91 h93 hs2 htl hsl
  go_enter Tryz.func118, Tryz.ntmps118
  go_wp2_with fail
  refine HZ1.out.mono ?_
  rintro e w1 ⟨rfl, rfl⟩
  go_wp2_with fail
  refine HZ2.out.mono ?_
  rintro e w1 ⟨rfl, rfl⟩
  go_wp2_with fail
  refine HTT.out.mono ?_
  rintro e w1 ⟨rfl, rfl⟩
  clear HZ1 HZ2 HTT hsz
  go_wp2_with fail
  go_loopw [4, 5, 6] (fun t4 t5 t6 wr => NormG s2 w t4 t5 t6 wr) (fun _ _ t6 _ => s2.size - (intOf t6).toNat)
  case atStart => exact ⟨false, 0, [], rfl, rfl, rfl, Nat.zero_le _, by unfold IsBld; simpa [Lib.byteCells] using Lib.fresh_isBuilder 58 5 w, (Below.refl _ _).alloc (Nat.le_refl _) _, by simp, by simp⟩
  case round =>
    obtain ⟨sp, i, acc, rfl, rfl, rfl, hi, hbd, hbe, heq, hal⟩ := hrel
    have hlw : w.heap.size ≤ wr.heap.size := hbe.size
    have HBD := hid hbd
    have HBE := hid hbe
    have HEQ := hid heq
    clear hbd hbe heq
    by_cases hlt : i < s2.size
    · obtain ⟨c0, hc0, hbt⟩ := bt_at s2 hlt
      have hc128 := HC.out c0 (List.mem_of_getElem? hc0)
      by_cases hsn : bt s2 i = 32 ∨ bt s2 i = 9 ∨ bt s2 i = 10
      · have hst : isSN c0 = true := isSN_of (by rw [← hbt]; exact hsn)
        have HN := hid (normGo_drop_sp hc0 sp hst)
        clear hc0 hst
        rcases hsn with z | z | z
        all_goals
          go_wp2_with fail
          go_roundw
          case rel => exact ⟨true, i + 1, acc, rfl, rfl, by go_num, by omega, HBD.out, HBE.out, by rw [← HN.out]; exact HEQ.out, by omega⟩
          case measure => simp [intOf]; omega
      · have z32 : (bt s2 i == 32) = false := by rw [beq_eq_false_iff_ne]; exact fun e => hsn (.inl e)
        have z9 : (bt s2 i == 9) = false := by rw [beq_eq_false_iff_ne]; exact fun e => hsn (.inr (.inl e))
        have z10 : (bt s2 i == 10) = false := by rw [beq_eq_false_iff_ne]; exact fun e => hsn (.inr (.inr e))
        have hst : isSN c0 = false := isSN_not (fun e => hsn (.inl (hbt.trans e))) (fun e => hsn (.inr (.inl (hbt.trans e)))) (fun e => hsn (.inr (.inr (hbt.trans e))))
        have HN := hid (normGo_drop hc0 sp hst)
        have z128 : bt s2 i < 128 := by rw [hbt]; omega
        have HBT := hid hbt
        have HC128 := hid hc128
        have HAL := hid hal
        clear hc0 hst hsn hbt hc128 hal
        cases sp with
        | true =>
          have HW1 := hid (bld_byte w.heap.size w.heap.size acc 32 wr HBD.out hlw (by have := HAL.out; omega))
          by_cases zA : bt s2 i < 65
          · have HLC := hid (show lowc c0 = c0 from by have := HBT.out; unfold lowc; rw [if_neg (by omega)])
            go_wp2_with fail
            refine HW1.out.mono ?_
            rintro e w1 ⟨rfl, hb1, hl1⟩
            have HBD1 := hid hb1
            have HBE1 := hid (HBE.out.trans hl1)
            have hlw1 : w.heap.size ≤ w1.heap.size := HBE1.out.size
            clear hb1 hl1
            have hwb := hid (bld_byte w.heap.size w.heap.size (acc ++ [32]) c0 w1 HBD1.out hlw1 (by have := HAL.out; simp; omega))
            rw [← HBT.out] at hwb
            go_wp2_with fail
            refine hwb.out.mono ?_
            rintro e w2 ⟨rfl, hb2, hl2⟩
            have HB2 := hid hb2
            have HL2 := hid (HBE1.out.trans hl2)
            clear hb2 hl2
            go_wp2_with fail
            go_roundw
            case rel => exact ⟨false, i + 1, _, rfl, rfl, by go_num, by omega, HB2.out, HL2.out, by have := HEQ.out; rw [HN.out, HLC.out] at this; rw [← this]; simp [List.append_assoc], by have := HAL.out; simp; omega⟩
            case measure => simp [intOf]; omega
          · by_cases zZ : 90 < bt s2 i
            · have HLC := hid (show lowc c0 = c0 from by have := HBT.out; unfold lowc; rw [if_neg (by omega)])
              go_wp2_with fail
              refine HW1.out.mono ?_
              rintro e w1 ⟨rfl, hb1, hl1⟩
              have HBD1 := hid hb1
              have HBE1 := hid (HBE.out.trans hl1)
              have hlw1 : w.heap.size ≤ w1.heap.size := HBE1.out.size
              clear hb1 hl1
              have hwb := hid (bld_byte w.heap.size w.heap.size (acc ++ [32]) c0 w1 HBD1.out hlw1 (by have := HAL.out; simp; omega))
              rw [← HBT.out] at hwb
              go_wp2_with fail
              refine hwb.out.mono ?_
              rintro e w2 ⟨rfl, hb2, hl2⟩
              have HB2 := hid hb2
              have HL2 := hid (HBE1.out.trans hl2)
              clear hb2 hl2
              go_wp2_with fail
              go_roundw
              case rel => exact ⟨false, i + 1, _, rfl, rfl, by go_num, by omega, HB2.out, HL2.out, by have := HEQ.out; rw [HN.out, HLC.out] at this; rw [← this]; simp [List.append_assoc], by have := HAL.out; simp; omega⟩
              case measure => simp [intOf]; omega
            · have HLC := hid (show lowc c0 = c0 + 32 from by have := HBT.out; unfold lowc; rw [if_pos (by omega)])
              have z256 : bt s2 i + 32 < 256 := by omega
              have hc32 : ((c0 + 32).toNat : Int) = bt s2 i + 32 := by have := HBT.out; rw [UInt8.toNat_add, this]; simp; omega
              go_wp2_with fail
              refine HW1.out.mono ?_
              rintro e w1 ⟨rfl, hb1, hl1⟩
              have HBD1 := hid hb1
              have HBE1 := hid (HBE.out.trans hl1)
              have hlw1 : w.heap.size ≤ w1.heap.size := HBE1.out.size
              clear hb1 hl1
              have hwb := hid (bld_byte w.heap.size w.heap.size (acc ++ [32]) (c0 + 32) w1 HBD1.out hlw1 (by have := HAL.out; simp; omega))
              rw [hc32] at hwb
              go_wp2_with fail
              refine hwb.out.mono ?_
              rintro e w2 ⟨rfl, hb2, hl2⟩
              have HB2 := hid hb2
              have HL2 := hid (HBE1.out.trans hl2)
              clear hb2 hl2
              go_wp2_with fail
              go_roundw
              case rel => exact ⟨false, i + 1, _, rfl, rfl, by go_num, by omega, HB2.out, HL2.out, by have := HEQ.out; rw [HN.out, HLC.out] at this; rw [← this]; simp [List.append_assoc], by have := HAL.out; simp; omega⟩
              case measure => simp [intOf]; omega
        | false =>
          by_cases zA : bt s2 i < 65
          · have HLC := hid (show lowc c0 = c0 from by have := HBT.out; unfold lowc; rw [if_neg (by omega)])
            have hwb := hid (bld_byte w.heap.size w.heap.size (acc) c0 wr HBD.out hlw (by have := HAL.out; simp; omega))
            rw [← HBT.out] at hwb
            go_wp2_with fail
            refine hwb.out.mono ?_
            rintro e w2 ⟨rfl, hb2, hl2⟩
            have HB2 := hid hb2
            have HL2 := hid (HBE.out.trans hl2)
            clear hb2 hl2
            go_wp2_with fail
            go_roundw
            case rel => exact ⟨false, i + 1, _, rfl, rfl, by go_num, by omega, HB2.out, HL2.out, by have := HEQ.out; rw [HN.out, HLC.out] at this; rw [← this]; simp [List.append_assoc], by have := HAL.out; simp; omega⟩
            case measure => simp [intOf]; omega
          · by_cases zZ : 90 < bt s2 i
            · have HLC := hid (show lowc c0 = c0 from by have := HBT.out; unfold lowc; rw [if_neg (by omega)])
              have hwb := hid (bld_byte w.heap.size w.heap.size (acc) c0 wr HBD.out hlw (by have := HAL.out; simp; omega))
              rw [← HBT.out] at hwb
              go_wp2_with fail
              refine hwb.out.mono ?_
              rintro e w2 ⟨rfl, hb2, hl2⟩
              have HB2 := hid hb2
              have HL2 := hid (HBE.out.trans hl2)
              clear hb2 hl2
              go_wp2_with fail
              go_roundw
              case rel => exact ⟨false, i + 1, _, rfl, rfl, by go_num, by omega, HB2.out, HL2.out, by have := HEQ.out; rw [HN.out, HLC.out] at this; rw [← this]; simp [List.append_assoc], by have := HAL.out; simp; omega⟩
              case measure => simp [intOf]; omega
            · have HLC := hid (show lowc c0 = c0 + 32 from by have := HBT.out; unfold lowc; rw [if_pos (by omega)])
              have z256 : bt s2 i + 32 < 256 := by omega
              have hc32 : ((c0 + 32).toNat : Int) = bt s2 i + 32 := by have := HBT.out; rw [UInt8.toNat_add, this]; simp; omega
              have hwb := hid (bld_byte w.heap.size w.heap.size (acc) (c0 + 32) wr HBD.out hlw (by have := HAL.out; simp; omega))
              rw [hc32] at hwb
              go_wp2_with fail
              refine hwb.out.mono ?_
              rintro e w2 ⟨rfl, hb2, hl2⟩
              have HB2 := hid hb2
              have HL2 := hid (HBE.out.trans hl2)
              clear hb2 hl2
              go_wp2_with fail
              go_roundw
              case rel => exact ⟨false, i + 1, _, rfl, rfl, by go_num, by omega, HB2.out, HL2.out, by have := HEQ.out; rw [HN.out, HLC.out] at this; rw [← this]; simp [List.append_assoc], by have := HAL.out; simp; omega⟩
              case measure => simp [intOf]; omega
    · obtain rfl : i = s2.size := by omega
      have HBS := hid (bld_string w.heap.size w.heap.size acc wr HBD.out hlw)
      have hacc : acc = normGo false s2.data.toList := by
        have := HEQ.out
        rw [List.drop_of_length_le (by rw [← HL.out]; exact Nat.le_refl _)] at this
        simpa [normGo] using this
      rw [hacc] at HBS
      clear hacc
      go_wp2_with fail
      refine HBS.out.mono ?_
      rintro e w2 ⟨rfl, hb2⟩
      have HL2 := hid (HBE.out.trans hb2)
      clear hb2
      go_wp2_with fail
      go_ret
      exact ⟨rfl, HL2.out⟩
set_option maxHeartbeats 800000 in
theorem label_any (p : Value) (s : ByteArray) (i j : Nat) (w : World) (hs : s.size ≤ 100000) (hij : i < j) (hj : j < s.size) (hl : j - (i + 1) ≤ 999) (h0 : bt s i = 91) (h1 : ∀ m, i < m → m < j → bt s m ≠ 91 ∧ bt s m ≠ 92 ∧ bt s m ≠ 93) (h2 : bt s j = 93) (hn : trimNR (trimNL (s.extract (i + 1) j).data.toList) ≠ []) :
    Calls Tryz.prog 117 #[p, .string s, .int .i64 i] w fun e w' => e = .returned (.tuple #[.string ⟨(trimNR (trimNL (s.extract (i + 1) j).data.toList)).toArray⟩, .int .i64 ((j : Int) + 1), .bool true]) ∧ w = w' := by
  have hb := get_bt s
  have e0 : (bt s i == 91) = true := by simpa using h0
  have e0' : (bt s i != 91) = false := by simp [bne, e0]
  have e2 : (bt s j == 93) = true := by simpa using h2
  have HT := hid (trimSTN_any (s.extract (i + 1) j) w (by rw [ByteArray.size_extract]; omega))
  have hne : (ByteArray.mk (trimNR (trimNL (s.extract (i + 1) j).data.toList)).toArray).toList.isEmpty = false := by
    rw [← decide_eq_emptyBytes]
    refine decide_eq_false (fun e => hn ?_)
    have := congrArg (fun b : ByteArray => b.data.toList) e
    simpa using this
  have H1 := hid h1
  clear h0 h1 h2
  generalize trimNR (trimNL (s.extract (i + 1) j).data.toList) = lb at HT hne hn ⊢
  have hne2 : lb.isEmpty = false := by
    cases lb with
    | nil => exact absurd rfl hn
    | cons c l => rfl
  clear hn
  go_enter Tryz.func117, Tryz.ntmps117
  go_wp2_with fail
  go_loopw [9] (fun t9 wr => ∃ m : Nat, t9 = .int .i64 m ∧ i < m ∧ m ≤ j ∧ wr = w) (fun t9 _ => j + 1 - (intOf t9).toNat)
  case atStart => exact ⟨i + 1, by go_num, by omega, by omega, rfl⟩
  case round =>
    obtain ⟨m, rfl, hm1, hm2, rfl⟩ := hrel
    by_cases hlt : m < j
    · obtain ⟨q1, q2, q3⟩ := H1.out m hm1 hlt
      have z91 : (bt s m == 91) = false := by simpa using q1
      have z92 : (bt s m == 92) = false := by simpa using q2
      have z93 : (bt s m == 93) = false := by simpa using q3
      clear q1 q2 q3
      go_wp2_with fail
      go_roundw
      case rel => exact ⟨m + 1, by go_num, by omega, by omega, trivial⟩
      case measure => simp [intOf]; omega
    · obtain rfl : m = j := by omega
      have h999 : ¬ 999 < (m : Int) - ((i : Int) + 1) := by omega
      go_wp2_with fail
      refine HT.out.mono ?_
      rintro e w1 ⟨rfl, rfl⟩
      go_wp2_with fail
      refine bodyPost_ret (by simp [results, Tryz.results117, go_sem]; try rfl) rfl ?_
      exact ⟨rfl, rfl⟩
end Go.Proofs.YtmmijmhdbpldpaaGreatDoor
/- A map of one entry: how it is made, and looked up. -/


namespace Go.Proofs.YtmmijmhdbpldpaaGreatDoor
open Go.RowKit
theorem linksT : Tryz.prog.underlying 86 = some (.map 9 140) := by kernel_rfl
theorem strT : Tryz.prog.underlying 9 = some .string := by kernel_rfl
/-- The map holds one link. -/
def LinkMap (w : World) (m : Nat) (k : ByteArray) (b : Nat) : Prop := ∃ c0 clock, w.heap[m]? = some (.map #[{ key := .string k, val := .pointer (some ⟨b, 0, none⟩), born := c0 }] clock)
theorem run_put1 (w : World) (m clock : Nat) (k : ByteArray) (v : Value) (hb : w.heap[m]? = some (.map #[] clock)) :
    (Instr.mapUpdate 86 (.map (some m)) (.string k) v).run Tryz.prog w = .ok () { w with heap := w.heap.setIfInBounds m (.map #[{ key := .string k, val := v, born := clock }] (clock + 1)) } :=
  run_mapUpdate_first w _ _ _ m clock k v linksT strT hb
theorem run_get1 {w : World} {m b : Nat} {k : ByteArray} (h : LinkMap w m k b) :
    (Instr.lookup 86 (.map (some m)) (.string k) true).run Tryz.prog w = .ok (.tuple #[.pointer (some ⟨b, 0, none⟩), .bool true]) w := by
  obtain ⟨c0, clock, hb⟩ := h
  have hf : Instr.findNow .string (.string k) [({ key := .string k, val := .pointer (some ⟨b, 0, none⟩), born := c0 } : MapEntry)] 0 = some (some (0, .pointer (some ⟨b, 0, none⟩))) := by
    have hk : (k == k) = true := by
      obtain ⟨d⟩ := k
      exact beq_self_eq_true d
    simp [Instr.findNow, Instr.sameNow, hk]
  have hc : ∀ e, (Instr.checkKey e 10000 9 (.string k)).run Tryz.prog w = .ok () w := fun e => MapKept.run_checkKey (k := .string k) strT (by simp [MapKept.IsKey]) e 9999
  simp [Instr.lookup, run_underlying linksT, MapKept.run_getObj_map hb, hc, MapKept.run_findKey strT hf, Result.andThen]
theorem run_getN (w : World) (k : ByteArray) : (Instr.lookup 86 (.map none) (.string k) false).run Tryz.prog w = .ok (.pointer none) w := by kernel_rfl
end Go.Proofs.YtmmijmhdbpldpaaGreatDoor
/- The definition of a link: how one is read, and put down. -/


namespace Go.Proofs.YtmmijmhdbpldpaaGreatDoor
open Go.RowKit
theorem Mod.setObj {S : Nat → Prop} {a w : World} (h : Mod S a w) (m : Nat) (o : Obj) (hm : S m ∨ a.heap.size ≤ m) : Mod S a { w with heap := w.heap.setIfInBounds m o } :=
  ⟨h.os, h.tape, h.output, by simpa using h.size, fun k hk hn => by
    have hne : m ≠ k := fun e => by
      subst e
      rcases hm with h1 | h1
      · exact hn h1
      · omega
    show (w.heap.setIfInBounds m o)[k]? = _
    rw [Array.getElem?_setIfInBounds_ne hne]
    exact h.block k hk hn⟩
set_option maxRecDepth 20000 in
set_option maxHeartbeats 800000 in
theorem defineLink_first (g b : Nat) (r : PSr) (k : ByteArray) (w : World) (hps : IsPS w g r) (hln : r.links = none) :
    Calls Tryz.prog 360 #[.pointer (some ⟨g, 0, none⟩), .string k, .pointer (some ⟨b, 0, none⟩)] w fun e w' => e = .returned (.tuple #[]) ∧ ∃ m, IsPS w' g { r with links := some m } ∧ LinkMap w' m k b ∧ w.heap.size ≤ m ∧ Mod (fun q => q = g) w w' := by
  have c2 := hps.c2
  rw [hln] at c2
  have hg := hps.lt
  have HM1 : Hid (Mod (fun q => q = g) w ((w.setCell ⟨g, 2, none⟩ (.map (some w.heap.size))).alloc (.map #[] 0))) := hid (((Mod.refl (fun q => q = g) w).setCell (p := ⟨g, 2, none⟩) (.inl rfl) _).alloc _)
  have f2 := hps.free
  have HP1 : Hid (IsPS ((w.setCell ⟨g, 2, none⟩ (.map (some w.heap.size))).alloc (.map #[] 0)) g { r with links := some w.heap.size }) := hid (Blk.alloc (hps.set2 (some w.heap.size)) _)
  have HB1 : Hid (((w.setCell ⟨g, 2, none⟩ (.map (some w.heap.size))).alloc (.map #[] 0)).heap[w.heap.size]? = some (.map #[] 0)) := hid (by
    have h1 := (MapKept.heap_alloc (w.setCell ⟨g, 2, none⟩ (.map (some w.heap.size))) (.map #[] 0)).1
    rwa [show (w.setCell ⟨g, 2, none⟩ (.map (some w.heap.size))).heap.size = w.heap.size from by simp] at h1)
  have hmm := @run_makeMap Tryz.prog
  have hme : ∀ W, (Go.binOp BinOp.eql 86 (.map none) (.map none)).run Tryz.prog W = .ok (.bool true) W := fun W => by kernel_rfl
  clear hps hln
  have hup := run_put1 _ w.heap.size 0 k (.pointer (some ⟨b, 0, none⟩)) HB1.out
  go_enter Tryz.func360, Tryz.ntmps360
  go_wp2_with fail
  go_end0
  have hlt := (Array.getElem?_eq_some_iff.1 HB1.out).1
  have hmf := HM1.out.setObj w.heap.size (.map #[{ key := .string k, val := .pointer (some ⟨b, 0, none⟩), born := 0 }] (0 + 1)) (.inr (Nat.le_refl _))
  have hm2 := (Mod.refl (fun q => q = w.heap.size) ((w.setCell ⟨g, 2, none⟩ (.map (some w.heap.size))).alloc (.map #[] 0))).setObj w.heap.size (.map #[{ key := .string k, val := .pointer (some ⟨b, 0, none⟩), born := 0 }] (0 + 1)) (.inl rfl)
  have hpf := HP1.out.mod hm2 (by omega)
  have hbf := Array.getElem?_setIfInBounds_self_of_lt (xs := ((w.setCell ⟨g, 2, none⟩ (.map (some w.heap.size))).alloc (.map #[] 0)).heap) (a := .map #[{ key := .string k, val := .pointer (some ⟨b, 0, none⟩), born := 0 }] (0 + 1)) hlt
  exact ⟨rfl, w.heap.size, hpf, ⟨0, 1, hbf⟩, Nat.le_refl _, hmf⟩
theorem link_none (g : Nat) (r : PSr) (k : ByteArray) (w : World) (hps : IsPS w g r) (hln : r.links = none) :
    Calls Tryz.prog 361 #[.pointer (some ⟨g, 0, none⟩), .string k] w fun e w' => e = .returned (.pointer none) ∧ w = w' := by
  have c2 := hps.c2
  rw [hln] at c2
  have hlk := run_getN
  clear hps hln
  go_enter Tryz.func361, Tryz.ntmps361
  go_wp2_with fail
  go_ret
  exact ⟨rfl, rfl⟩
theorem skipSpace_end (s : ByteArray) (w : World) : Calls Tryz.prog 114 #[.string s, .int .i64 s.size] w fun e w' => e = .returned (.int .i64 s.size) ∧ w = w' := by
  go_enter Tryz.func114, Tryz.ntmps114
  go_wp2_with fail
  refine wp_loop_rounds 1 ?_
  rw [rounds_succ]
  go_wp2_with fail
  go_ret
  exact ⟨rfl, rfl⟩
theorem skipSpace_one (s : ByteArray) (i : Nat) (w : World) (hi : i + 1 < s.size) (hs : s.size ≤ 1000000) (h0 : bt s i = 32) (h : bt s (i + 1) ≠ 32 ∧ bt s (i + 1) ≠ 9 ∧ bt s (i + 1) ≠ 10) :
    Calls Tryz.prog 114 #[.string s, .int .i64 i] w fun e w' => e = .returned (.int .i64 ((i : Int) + 1)) ∧ w = w' := by
  have hb := get_bt s
  have e0 : (bt s i == 32) = true := by simpa using h0
  have e1 : (bt s (i + 1) == 32) = false := by simpa using h.1
  have e2 : (bt s (i + 1) == 9) = false := by simpa using h.2.1
  have e3 : (bt s (i + 1) == 10) = false := by simpa using h.2.2
  clear h h0
  go_enter Tryz.func114, Tryz.ntmps114
  go_wp2_with fail
  refine wp_loop_rounds 2 ?_
  rw [rounds_succ]
  go_wp2_with fail
  rw [rounds_succ]
  go_wp2_with fail
  go_ret
  exact ⟨rfl, rfl⟩
theorem linkTitle_end (s : ByteArray) (w : World) : Calls Tryz.prog 116 #[.string s, .int .i64 s.size] w fun e w' => e = .returned (.tuple #[.string ⟨#[]⟩, .int .u8 0, .int .i64 0, .bool false]) ∧ w = w' := by
  go_enter Tryz.func116, Tryz.ntmps116
  go_wp2_with fail
  refine bodyPost_ret (by simp [results, Tryz.results116, go_sem]; try rfl) rfl ?_
  exact ⟨rfl, rfl⟩
/-- What stands in a destination. -/
def DE (z : Int) : Prop := z ≠ 60 ∧ z ≠ 40 ∧ z ≠ 41 ∧ z ≠ 92 ∧ z ≠ 32 ∧ z ≠ 9 ∧ z ≠ 10
theorem DE.eqs {z : Int} (h : DE z) : (z == 60) = false ∧ (z == 40) = false ∧ (z == 41) = false ∧ (z == 92) = false ∧ (z == 32) = false ∧ (z == 9) = false ∧ (z == 10) = false := by
  obtain ⟨a, b, c, d, e, f, i⟩ := h
  simp [a, b, c, d, e, f, i]
set_option maxRecDepth 20000 in
set_option maxHeartbeats 1600000 in
theorem linkDest_end (s : ByteArray) (i : Nat) (w : World) (hs : s.size ≤ 100000) (hi : i < s.size) (hc : ∀ m, i ≤ m → m < s.size → DE (bt s m)) (h1 : 92 ∉ (s.extract i s.size).data.toList) (h2 : 38 ∉ (s.extract i s.size).data.toList) :
    Calls Tryz.prog 115 #[.string s, .int .i64 i] w fun e w' => e = .returned (.tuple #[.string (s.extract i s.size), .int .i64 s.size, .bool true]) ∧ w = w' := by
  have hb := get_bt s
  have e60 := (hc i (Nat.le_refl _) hi).eqs.1
  have HU := hid (mdUnescape_self (s.extract i s.size) w (by rw [ByteArray.size_extract]; omega) h1 h2)
  have HC := hid hc
  clear hc h1 h2
  go_enter Tryz.func115, Tryz.ntmps115
  go_wp2_with fail
  go_step3
  go_wp2_with fail
  go_step3
  go_wp2_with fail
  go_loopw [8, 9] (fun t8 t9 wr => t8 = .int .i64 0 ∧ ∃ m : Nat, t9 = .int .i64 m ∧ i ≤ m ∧ m ≤ s.size ∧ wr = w) (fun _ t9 _ => s.size + 1 - (intOf t9).toNat)
  case atStart => exact ⟨rfl, i, rfl, Nat.le_refl _, by omega, rfl⟩
  case round =>
    obtain ⟨rfl, m, rfl, hm1, hm2, rfl⟩ := hrel
    by_cases hlt : m < s.size
    · obtain ⟨_, z40, z41, z92, z32, z9, z10⟩ := (HC.out m hm1 hlt).eqs
      go_wp2_with fail
      go_roundw
      case rel => exact ⟨rfl, m + 1, by go_num, by omega, by omega, trivial⟩
      case measure => simp [intOf]; omega
    · obtain rfl : m = s.size := by omega
      go_wp2_with fail
      refine HU.out.mono ?_
      rintro e w1 ⟨rfl, rfl⟩
      go_wp2_with fail
      all_goals (try rw [Exit.noGoto_ret])
      refine bodyPost_ret (by simp [results, Tryz.results115, go_sem]; try rfl) rfl ?_
      exact ⟨rfl, rfl⟩
/-- A text that is a definition, whole. -/
structure RefText (s : ByteArray) (j : Nat) : Prop where
  size : s.size ≤ 10000
  lab : j ≤ 1000
  jpos : 0 < j
  end_ : j + 3 < s.size
  h0 : bt s 0 = 91
  chars : ∀ m, 0 < m → m < j → bt s m ≠ 91 ∧ bt s m ≠ 92 ∧ bt s m ≠ 93
  h93 : bt s j = 93
  h58 : bt s (j + 1) = 58
  h32 : bt s (j + 2) = 32
  dest : ∀ m, j + 3 ≤ m → m < s.size → DE (bt s m)
  esc1 : 92 ∉ (s.extract (j + 3) s.size).data.toList
  esc2 : 38 ∉ (s.extract (j + 3) s.size).data.toList
  ink : trimNR (trimNL (s.extract (0 + 1) j).data.toList) ≠ []
  ascii : ∀ c ∈ (s.extract (0 + 1) j).data.toList, c ≠ 91 ∧ c ≠ 93 ∧ c.toNat < 128
/-- Its label's normal form. -/
def refKey (s : ByteArray) (j : Nat) : ByteArray := ⟨(normL (trimNR (trimNL (s.extract (0 + 1) j).data.toList))).toArray⟩
@[reducible] def psV (g : Nat) : Value := .iface 116 (.pointer (some ⟨g, 0, none⟩))
set_option maxRecDepth 20000 in
set_option maxHeartbeats 3200000 in
theorem refDef_yes (g : Nat) (r : PSr) (s : ByteArray) (j : Nat) (w : World) (hps : IsPS w g r) (hln : r.links = none) (H : RefText s j) :
    Calls Tryz.prog 283 #[psV g, .string s] w fun e w' => e = .returned (.tuple #[.int .i64 s.size, .bool true]) ∧ ∃ m b, IsPS w' g { r with links := some m } ∧ LinkMap w' m (refKey s j) b ∧ Blk w' b 144 #[.slice none 0 0, .string (s.extract (j + 3) s.size), .string ⟨#[]⟩, .int .u8 0, .bool false] ∧ w.heap.size ≤ m ∧ w.heap.size ≤ b ∧ Mod (fun q => q = g) w w' := by
  have hb := get_bt s
  have hsz := H.size
  have hlab := H.lab
  have hj := H.jpos
  have hend := H.end_
  have hde := H.dest (j + 3) (Nat.le_refl _) hend
  have HS0 := hid (skipSpace_no s 0 w (by omega) (by omega) (by rw [H.h0]; decide))
  have HLB := hid (label_any (.pointer (some ⟨g, 0, none⟩)) s 0 j w (by omega) hj (by omega) (by omega) H.h0 H.chars H.h93 H.ink)
  have HS1 := hid (skipSpace_one s (j + 2) w (by omega) (by omega) H.h32 ⟨hde.2.2.2.2.1, hde.2.2.2.2.2.1, hde.2.2.2.2.2.2⟩)
  have HD := hid (linkDest_end s (j + 3) w (by omega) hend H.dest H.esc1 H.esc2)
  have HTI := hid (linkTitle_end s w)
  have hlen : (trimNR (trimNL (s.extract (0 + 1) j).data.toList)).length ≤ 1000 := by
    have h1 := trimN_len (s.extract (0 + 1) j).data.toList
    have h2 : (s.extract (0 + 1) j).size ≤ 1000 := by rw [ByteArray.size_extract]; omega
    rw [Lib.size_eq] at h2
    omega
  have hmem : ∀ c ∈ trimNR (trimNL (s.extract (0 + 1) j).data.toList), c ≠ 91 ∧ c ≠ 93 ∧ c.toNat < 128 := fun c hc => H.ascii c (trimNL_sub (trimNR_sub hc))
  have HN : Hid (Calls Tryz.prog 118 #[.string ⟨(trimNR (trimNL (s.extract (0 + 1) j).data.toList)).toArray⟩] w fun e w' => e = .returned (.string (refKey s j)) ∧ Below w.heap.size w w') := hid (by
    have := normLabel_any ⟨(trimNR (trimNL (s.extract (0 + 1) j).data.toList)).toArray⟩ w (by rw [ByteArray.size, List.size_toArray]; exact hlen) (fun h => (hmem 91 (by simpa using h)).1 rfl) (fun h => (hmem 93 (by simpa using h)).2.1 rfl) (fun c hc => (hmem c (by simpa using hc)).2.2)
    simpa [refKey] using this)
  generalize trimNR (trimNL (s.extract (0 + 1) j).data.toList) = lb at HLB HN hlen hmem
  have e58 : (bt s (j + 1) == 58) = true := by simpa using H.h58
  have e58' : (bt s (j + 1) != 58) = false := by simp [bne, e58]
  have HPS := hid hps
  have HLN := hid hln
  have hta := ta_bs g
  rw [show ((j : Int) + 1) = ((j + 1 : Nat) : Int) from by omega] at HLB
  rw [show ((j + 2 : Nat) : Int) + 1 = ((j + 3 : Nat) : Int) from by omega] at HS1
  clear H hps hln hde hmem hlen
  generalize refKey s j = kk at HN ⊢
  go_enter Tryz.func283, Tryz.ntmps283
  go_wp2_with fail
  refine HS0.out.mono ?_
  rintro e w1 ⟨rfl, rfl⟩
  go_wp2_with fail
  refine HLB.out.mono ?_
  rintro e w1 ⟨rfl, rfl⟩
  go_wp2_with fail
  refine HS1.out.mono ?_
  rintro e w1 ⟨rfl, rfl⟩
  go_wp2_with fail
  refine HD.out.mono ?_
  rintro e w1 ⟨rfl, rfl⟩
  have hml : ∀ W, (method 475 116 (.pointer (some ⟨g, 0, none⟩)) "pub-paratext/pub/rscmarkdown.link").run Tryz.prog W = .ok (361, .pointer (some ⟨g, 0, none⟩)) W := fun W => by kernel_rfl
  have hel := Go.Proofs.enters_of Tryz.func361 (by kernel_rfl) rfl
  have hmd : ∀ W, (method 475 116 (.pointer (some ⟨g, 0, none⟩)) "pub-paratext/pub/rscmarkdown.defineLink").run Tryz.prog W = .ok (360, .pointer (some ⟨g, 0, none⟩)) W := fun W => by kernel_rfl
  have hed := Go.Proofs.enters_of Tryz.func360 (by kernel_rfl) rfl
  clear HS0 HLB HS1 HD
  go_wp2_with fail
  refine wp_loop_rounds 1 ?_
  rw [rounds_succ]
  go_wp2_with fail
  refine wp_loop_rounds 1 ?_
  rw [rounds_succ]
  go_wp2_with fail
  refine HTI.out.mono ?_
  rintro e w1 ⟨rfl, rfl⟩
  go_wp2_with fail
  refine HN.out.mono ?_
  rintro e w2 ⟨rfl, hb2⟩
  have HP2 := hid (HPS.out.below hb2)
  have HB2 := hid hb2
  clear hb2 HTI HN
  go_wp2_with fail
  refine (link_none g r kk w2 HP2.out HLN.out).mono ?_
  rintro e w3 ⟨rfl, rfl⟩
  go_wp2_with fail
  refine (defineLink_first g w2.heap.size r kk _ (Blk.alloc HP2.out _) HLN.out).mono ?_
  rintro e w4 ⟨rfl, m, hp4, hm4, hmz, hmod⟩
  have hg2 := HP2.out.lt
  have hnb := (Blk.new w2 144 #[.slice none 0 0, .string (s.extract (j + 3) s.size), .string ⟨#[]⟩, .int .u8 0, .bool false]).mod hmod (by omega)
  have hb0 := HB2.out.size
  have HF := hid (show ∃ m b, IsPS w4 g { r with links := some m } ∧ LinkMap w4 m kk b ∧ Blk w4 b 144 #[.slice none 0 0, .string (s.extract (j + 3) s.size), .string ⟨#[]⟩, .int .u8 0, .bool false] ∧ w.heap.size ≤ m ∧ w.heap.size ≤ b ∧ Mod (fun q => q = g) w w4 from ⟨m, w2.heap.size, hp4, hm4, hnb, by simp at hmz; omega, hb0, ((Mod.below' (S := fun q => q = g) HB2.out).alloc _).trans hmod (fun _ _ h => h)⟩)
  clear hp4 hm4 hmz hmod hnb hb0 hg2
  go_wp2_with fail
  refine bodyPost_ret (by simp [results, Tryz.results283, go_sem]; try rfl) rfl ?_
  exact ⟨rfl, HF.out⟩
end Go.Proofs.YtmmijmhdbpldpaaGreatDoor
/- A paragraph that is a definition, whole, is closed: an empty block, and the link is known. -/


namespace Go.Proofs.YtmmijmhdbpldpaaGreatDoor
open Go.RowKit
theorem ta_empty_list (p : Option Addr) (w : World) : (Instr.typeAssert (.iface 353 (.pointer p)) 69 111 true).run Tryz.prog w = .ok (.tuple #[.pointer none, .bool false]) w := by kernel_rfl
/-- A link that is known. -/
def Known (w : World) (m : Nat) (k u : ByteArray) (b : Nat) : Prop := LinkMap w m k b ∧ Blk w b 144 #[.slice none 0 0, .string u, .string ⟨#[]⟩, .int .u8 0, .bool false]
theorem Known.mod {w w' : World} {m b : Nat} {k u : ByteArray} {S : Nat → Prop} (h : Known w m k u b) (hm : Mod S w w') (h1 : ¬ S m) (h2 : ¬ S b) : Known w' m k u b := by
  obtain ⟨⟨c0, cl, h3⟩, h4⟩ := h
  refine ⟨⟨c0, cl, ?_⟩, h4.mod hm h2⟩
  rw [hm.block m (Array.getElem?_eq_some_iff.1 h3).1 h1]
  exact h3
/-- What closing it leaves. -/
def RefQ (s : ByteArray) (j : Nat) (r : PSr) (g : Nat) (w : World) (r' : PSr) (d : Nat) (w' : World) : Prop :=
  ∃ m b sl el, r' = { r with links := some m } ∧ w.heap.size ≤ d ∧ Blk w' d 355 #[.int .i64 sl, .int .i64 el] ∧ Known w' m (refKey s j) (s.extract (j + 3) s.size) b ∧ w.heap.size ≤ m ∧ w.heap.size ≤ b ∧ Mod (fun k => k = g) w w'
set_option maxRecDepth 20000 in
set_option maxHeartbeats 4000000 in
theorem ref_build (B g pb : Nat) (r : PSr) (es : List Ent) (e0 : Ent) (v : Sl) (s : ByteArray) (j : Nat) (w : World) (_ : B ≤ w.heap.size) (hps : IsPS w g r) (hln : r.links = none) (hst : IsStack w B r.stack (es ++ [e0])) (hn : es.length ≤ 1000000)
    (hpar : IsPara w B pb v (strsV [s])) (hvn : v.n = 1) (H : RefText s j) :
    Calls Tryz.prog 280 #[.pointer (some ⟨pb, 0, none⟩), .iface 116 (.pointer (some ⟨g, 0, none⟩))] w fun e w' => ∃ r' d, e = .returned (.iface 353 (.pointer (some ⟨d, 0, none⟩))) ∧ IsPS w' g r' ∧ RefQ s j r g w r' d w' := by
  obtain ⟨hblk, hlines, hBp⟩ := hpar
  obtain ⟨va, vn, vc⟩ := v
  dsimp only at hvn hblk hlines
  subst hvn
  obtain ⟨bk, cs, rfl, hbk, _, hcap, _, hcj, _⟩ := row_blk hlines (Nat.succ_pos 0)
  have hcells : ∀ (i : Nat) x, [s][i]? = some x → w.cell? ⟨bk, 0 + i, none⟩ = some (.string x) := fun i x hx => by
    have hi : i = 0 := by have := (List.getElem?_eq_some_iff.1 hx).1; simpa using this
    subst hi
    rw [Nat.zero_add, hbk.cell 0, hcj 0 (Nat.succ_pos 0)]
    simp only [List.getElem?_cons_zero, Option.some.injEq] at hx
    subst hx
    rfl
  have hjt : joinT [s] = s.data.toList := by unfold joinT; rw [List.map_cons, List.map_nil, Lib.join_cons]; simp [Lib.joinTail]
  have hsz := H.size
  have hsl : s.data.toList.length = s.size := (Lib.size_eq s).symm
  have p0 := hblk.at_ 0 rfl
  have p1 := hblk.at_ 1 rfl
  have hse : (⟨(joinT [s]).toArray⟩ : ByteArray) = s := by rw [hjt]
  have hjn := join_any bk 0 vc [s] ⟨#[10]⟩ w hcells hbk.lt (by simp) hcap (by show (joinT [s]).length ≤ 1000000; rw [hjt]; omega)
  have HJN := hid hjn
  have HPS := hid hps
  have HST := hid hst
  have HH := hid H
  have HSE := hid hse
  have hend := H.end_
  have hne : s.toList.isEmpty = false := by
    rw [← decide_eq_emptyBytes]
    refine decide_eq_false (fun e => ?_)
    rw [e] at hend
    have : ByteArray.empty.size = 0 := rfl
    omega
  have hg := hps.lt
  clear hjn hps hst hblk hlines hcells hbk hcj H hse hjt
  go_enter Tryz.func280, Tryz.ntmps280
  go_wp2_with fail
  refine HJN.out.mono ?_
  rintro e w1 ⟨rfl, hb1⟩
  have hT : (⟨(Lib.join ([s].map (·.data.toList)) [10]).toArray⟩ : ByteArray) = s := HSE.out
  rw [hT]
  clear hT HJN
  have hpA : Hid (IsPS w1 g r) := hid (HPS.out.below hb1)
  have hsA : Hid (IsStack w1 B r.stack (es ++ [e0])) := hid (HST.out.below hb1)
  have hB1 := hid hb1
  have hz1 := hb1.size
  clear hb1 HPS HST p0 p1 hg
  go_wp2_with fail
  refine wp_loop_rounds 2 ?_
  rw [rounds_succ]
  go_wp2_with fail
  refine (refDef_yes g r s j w1 hpA.out hln HH.out).mono ?_
  rintro e w2 ⟨rfl, m, b, hp2, hlm, hbl, hmz, hbz, hm2⟩
  have HSS := hid (skipSpace_end s w2)
  have hsB : Hid (IsStack w2 B r.stack (es ++ [e0])) := hid (hsA.out.mod hm2 (fun k hk e => by subst e; exact own_ne hsA.out.2 hpA.out (by decide) hk.symm))
  have HP2 := hid hp2
  have HK := hid (show Known w2 m (refKey s j) (s.extract (j + 3) s.size) b from ⟨hlm, hbl⟩)
  have HM2 := hid ((Mod.below' (S := fun k => k = g) hB1.out).trans hm2 (fun _ _ h => h))
  have hmz' : w.heap.size ≤ m := Nat.le_trans hz1 hmz
  have hbz' : w.heap.size ≤ b := Nat.le_trans hz1 hbz
  have hbl2 := hbl.lt
  have hml2 : m < w2.heap.size := by obtain ⟨_, _, h3⟩ := hlm; exact (Array.getElem?_eq_some_iff.1 h3).1
  clear hp2 hlm hbl hmz hbz hm2 hpA hsA hB1
  go_wp2_with fail
  refine HSS.out.mono ?_
  rintro e w3 ⟨rfl, rfl⟩
  go_wp2_with fail
  have hemp : ByteArray.empty.toList.isEmpty = true := by rw [← decide_eq_emptyBytes]; exact decide_eq_true rfl
  rw [rounds_succ]
  go_wp2_with fail
  refine (pos_any B g { r with links := some m } es e0 w2 HP2.out hsB.out hn).mono ?_
  rintro e w4 ⟨rfl, hb4⟩
  have hz4 := hb4.size
  have hp4 := hid (HP2.out.below hb4)
  have hk4 := hid (HK.out.mod (Mod.below' (S := fun _ => False) hb4) (fun x => x) (fun x => x))
  have hm4 := hid (HM2.out.trans (Mod.below' (S := fun k => k = g) hb4) (fun _ _ h => h))
  have hz5 := hm4.out.size
  clear hb4 HP2 HK HM2 hsB
  go_wp2_with fail
  go_ret
  refine ⟨{ r with links := some m }, w4.heap.size, rfl, hp4.out.alloc _, m, b, _, _, rfl, hz5, Blk.new _ _ _, ?_, hmz', hbz', hm4.out.alloc _⟩
  exact hk4.out.mod ((Mod.refl (fun _ => False) w4).alloc _) (fun x => x) (fun x => x)
/-- .. is closed. -/
theorem closeRef_any (B g pb : Nat) (r : PSr) (e1 : Ent) (bs : List Value) (v : Sl) (s : ByteArray) (j : Nat) (sl : Nat) (el : Int) (w : World) (hB : B ≤ w.heap.size) (hps : IsPS w g r) (hln : r.links = none) (hst : IsStack w B r.stack ([] ++ [e1] ++ [parE pb sl el]))
    (hin : w.ownsRow B 69 1 e1.inner.v e1.inner.n bs) (hmi : e1.inner.n ≤ 1000000) (hpar : IsPara w B pb v (strsV [s])) (hvn : v.n = 1) (H : RefText s j) :
    Calls Tryz.prog 63 #[.pointer (some ⟨g, 0, none⟩)] w (CloseP2 B g r [] e1 bs 353 (RefQ s j r g w)) := by
  refine close_gen2 B g r [] e1 (parE pb sl el) bs 353 _ 280 (.pointer (some ⟨pb, 0, none⟩)) w hps hst (by simp) hmi (para_build_via pb) (Go.Proofs.enters_of Tryz.func280 (by kernel_rfl) rfl) ta_empty_list ?_
  intro n
  refine (ref_build B g pb r ([] ++ [e1]) (parE pb sl el) v s j (w.drewN n) hB (hps.drewN n) hln (hst.drewN n) (by simp) ⟨hpar.1.drewN n, World.ownsRow.drewN hpar.2.1 n, hpar.2.2⟩ hvn H).mono ?_
  rintro e w' ⟨r', d, rfl, hps', m, b, sl', el', rfl, hd, hdb, hk, hm1, hb1, hm⟩
  have hm' : Mod (fun k => k = g) w w' := ((Mod.refl _ w).drewN n).trans hm (fun _ _ h => h)
  refine ⟨_, d, rfl, hps', rfl, ?_, ?_, Nat.le_trans hB hm'.size, m, b, sl', el', rfl, hd, hdb, hk, hm1, hb1, hm'⟩
  · exact hst.mod hm' (fun k hk e => by subst e; exact own_ne hst.2 hps (by decide) hk.symm)
  · exact own_mod hin hm' (fun k hk e => by subst e; exact own_ne hin hps (by decide) hk.symm)
end Go.Proofs.YtmmijmhdbpldpaaGreatDoor
/- A text of one line that is a paragraph: its HTML, where its inline text is read with no definition known and the corner not yet told. -/

namespace Go.Proofs.YtmmijmhdbpldpaaGreatDoor
open Go.RowKit
/-- As InlC, where no definitions are known, and no corner has been met. -/
def InlC1 (o : Opt) (s out : List UInt8) : Prop :=
  ∀ (g : Nat) (r : PSr) (w : World), IsPS w g r → Blk w r.parser 77 o.parser → r.parser ≠ g → r.back.length = 81 → r.links = none → r.corner = false → Calls Tryz.prog 56 #[.pointer (some ⟨g, 0, none⟩), .string ⟨s.toArray⟩] w (InlPost g r out w)
def ParFin1 (pb g : Nat) (w0 : World) (o : Opt) (s out : List UInt8) (ta : Option Addr) (k : Nat) (w : World) : Prop :=
  Below g w0 w ∧ Blk w pb 77 o.parser ∧ ∃ (r : PSr) (d kb tb ab : Nat) (v1 : Sl) (tc : Nat) (lk : Option Nat), IsPS w g r ∧ r.parser = pb ∧ r.root = some ⟨d, 0, none⟩ ∧ ta = some ⟨ab, 0, none⟩ ∧ r.texts = ⟨ta, 1, tc⟩ ∧ w.ownsRow (g + 1) 105 1 r.texts.v 1 [.pointer (some ⟨tb, 0, none⟩)] ∧
    Blk w d 339 #[.int .i64 0, .int .i64 0, v1.v, .map lk] ∧ v1.n = 1 ∧ w.ownsRow (g + 1) 69 1 v1.v 1 [parV kb] ∧ g < tb ∧
    ((k = 0 ∧ r.back.length = 81 ∧ r.links = none ∧ r.corner = false ∧ ∃ (sl el sl2 el2 : Int), Blk w kb 155 #[.int .i64 sl, .int .i64 el, .pointer (some ⟨tb, 0, none⟩)] ∧ Blk w tb 110 #[.int .i64 sl2, .int .i64 el2, .slice none 0 0, .string ⟨s.toArray⟩]) ∨
     (k = 1 ∧ IsPar w (g + 1) kb tb out))
set_option maxRecDepth 20000 in
theorem parH1 (pb g : Nat) (w0 : World) (o : Opt) (s out : List UInt8) (hs : ParLine ⟨s.toArray⟩) (hno : 10 ∉ s ∧ 13 ∉ s) (href : RefNo s) (hpb : pb < g) (hi : InlC1 o s out) (ht : o.tasks = false) : ParseH2 pb g 1 (ParInv pb g w0 o s) (ParFin1 pb g w0 o s out) s.length where
  line := by
    intro l n w ⟨hb, hpar, st, a, h⟩ hne hll
    rcases h with ⟨rfl, rfl, hps, hst⟩ | ⟨_, _, h, _⟩
    · have hsz := hs.size
      have hsl : l.length ≤ 100000 := by rw [sz_mk] at hsz; exact hsz
      have hg := hps.lt
      refine ⟨⟨_, hps, rfl⟩, by omega, ?_⟩
      have hnl : nextLine l = (l, 0, []) := by
        unfold nextLine
        rw [idxB_not _ _ hno.2, idxB_not _ _ hno.1]
        rfl
      rw [hnl]
      have hne2 : some g ≠ st.v.ownBlock := own_ne hst.2 hps (by decide)
      have hpar3 := hpar.far (p := ⟨g, 3, none⟩) (Blk.ne_ hpar hps (by decide)) (.int .i64 ((0 : Nat) + 1))
      refine (addLine_par0 (g + 1) g { ps0 pb with lineno := 1, stack := st } a Sl.nil o.tables 0 ⟨l.toArray⟩ _ (Nat.lt_succ_self _) (by simp; exact hg) (hps.set3 _) (hst.far (p := ⟨g, 3, none⟩) hne2 _) hs hpb (hpar3.at_ 5 rfl)).mono ?_
      rintro e w' ⟨rfl, st2, qb, v, h1, h2, h3, h4, hm⟩
      refine ⟨rfl, ?_, ?_, st2, a, .inr ⟨qb, v, rfl, rfl, h1, h2, h3, h4⟩⟩
      · exact (hb.setCell (p := ⟨g, 3, none⟩) (Nat.le_refl _) _).trans (hm.toBelow (B := g) (by simp; exact Nat.le_of_lt hg) (fun k hk e => by omega))
      · exact hpar3.mod hm (by omega)
    · exact absurd h hne
  drew := by
    intro l n w k ⟨hb, hpar, st, a, h⟩
    refine ⟨below_drewN hb k, hpar.drewN k, st, a, ?_⟩
    rcases h with ⟨h1, h2, hps, hst⟩ | ⟨qb, v, h1, h2, hps, hst, ⟨q1, q2, q3⟩, h4⟩
    · exact .inl ⟨h1, h2, hps.drewN k, hst.drewN k⟩
    · exact .inr ⟨qb, v, h1, h2, hps.drewN k, hst.drewN k, ⟨q1.drewN k, World.ownsRow.drewN q2 k, q3⟩, h4⟩
  trim := by
    intro n w ⟨hb, hpar, st, a, h⟩
    rcases h with ⟨h1, _, _, _⟩ | ⟨qb, v, h1, h2, hps, hst, hp, h4⟩
    · exfalso
      have := hs.pos
      subst h1
      simp [ByteArray.size] at this
    · have hg := hps.lt
      have hsz := hs.size
      have hpo := hs.pos
      have hj : joinT [⟨s.toArray⟩] = s := by unfold joinT; rw [List.map_cons, List.map_nil, Lib.join_cons]; simp [Lib.joinTail]
      have hH : ParaHead (joinT [⟨s.toArray⟩]) := by
        rw [hj]
        rw [sz_mk] at hpo hsz
        exact ⟨hpo, by omega, href⟩
      refine (trim_leaf0 (g + 1) g _ a Sl.nil 0 0 (parE qb 1 1) [] 153 _ w hps hst (closePara_any (g + 1) g qb _ (rootF a Sl.nil) [] v [⟨s.toArray⟩] [] 1 1 w hg hps hst (World.ownsRow_nil _ _ _ _) (by show 0 ≤ 1000000; omega) hp h4 (World.ownsRow_nil _ _ _ _) (by show 0 ≤ 1000000; omega) (by omega) (by simp) (by simp) hH)).mono ?_
      rintro e w' ⟨rfl, r', kb, w1, v1, st2, d, ⟨tb, l, rfl, q1, q2, q3, q4, q5, q6, q7⟩, hd, hps2, hv1, hrow, hdoc, hm⟩
      rw [hj] at q4
      have hbel : Below g w w' := (q7.toBelow (B := g) (Nat.le_of_lt hg) (fun k hk e => by
          rcases e with e | e
          · omega
          · cases e)).trans (hm.toBelow (B := g) (Nat.le_trans (Nat.le_of_lt hg) q7.size) (fun k hk e => by
          rcases e with e | e | e
          · omega
          · have := ownBase hst.2 e; omega
          · cases e))
      obtain ⟨la, ln, lc⟩ := l
      obtain rfl : ln = 1 := q6
      have hst1 := hst.mod q7 (fun k hk e => by
        rcases e with e | e
        · subst e; exact own_ne hst.2 hps (by decide) hk.symm
        · cases e)
      have h5 : w1.ownsRow (g + 1) 105 1 (.slice la 1 lc) 1 [.pointer (some ⟨tb, 0, none⟩)] := q5
      have hrowt : w'.ownsRow (g + 1) 105 1 (.slice la 1 lc) 1 [.pointer (some ⟨tb, 0, none⟩)] := by
        refine own_mod h5 hm (fun q hq e => ?_)
        rcases e with e | e | e
        · have := ownBase h5 hq.symm; omega
        · exact ownApart h5 hst1.2 (by decide) hq e.symm
        · cases e
      obtain ⟨ab, cs, hab, _⟩ := row_blk hrowt (Nat.succ_pos 0)
      have hv1' : v1.n = 1 := hv1
      rw [hv1'] at hrow
      have kp := q3.mod hm (fun e => by
        rcases e with e | e | e
        · omega
        · exact own_ne hst1.2 q3 (by decide) e
        · cases e)
      have kt := q4.mod hm (fun e => by
        rcases e with e | e | e
        · omega
        · exact own_ne hst1.2 q4 (by decide) e
        · cases e)
      exact ⟨rfl, la, hb.trans hbel, hpar.mod (Mod.below hbel (S := fun k => g ≤ k) (fun k _ h => h)) (by omega), _, d, kb, tb, ab, v1, lc, _, hps2, rfl, rfl, hab, rfl, hrowt, hdoc, hv1', hrow, by omega, .inl ⟨rfl, rfl, rfl, rfl, _, _, _, _, kp, kt⟩⟩
  at_ := by
    intro ta k w ⟨hb, hpar, r, d, kb, tb, ab, v1, tc, lk, hps, hrp, hroot, hta, htx, _⟩
    exact ⟨by omega, r, tc, hps, htx, parser_no2 o hpar ht⟩
  text := by
    intro ta k w ⟨hb, hpar, r, d, kb, tb, ab, v1, tc, lk, hps, hrp, hroot, hta, htx, hrt, hdoc, hv1, hrow, hgt, hk⟩ hk1
    rcases hk with ⟨rfl, hbk, hlk, hco, sl, el, sl2, el2, hkp, hkt⟩ | ⟨rfl, _⟩
    · subst hta
      have hrt2 := hrt
      rw [htx] at hrt2
      obtain ⟨ab', cs, hab, hblk, _, _, _, hcl, _⟩ := row_blk hrt2 (Nat.succ_pos 0)
      simp only [Option.some.injEq, Addr.mk.injEq] at hab
      obtain ⟨rfl, _⟩ := hab
      have hgl := hps.lt
      have hrg : r.parser ≠ g := by rw [hrp]; omega
      refine ⟨ab, 0, tb, ⟨s.toArray⟩, rfl, hblk.at_ 0 (hcl 0 (by omega)), hkt.at_ 3 rfl, (hi g r w hps (by rw [hrp]; exact hpar) hrg hbk hlk hco).mono ?_⟩
      rintro e w' ⟨l, vs, outs, c, em, s2, bk, rfl, hps', hrl, hn, hits, hout, hm⟩
      have hkt' := hkt.mod hm (by omega)
      refine ⟨l.a, l.n, l.c, rfl, ⟨_, hkt'.at_ 2 rfl⟩, hkt'.free 2, ?_⟩
      have htg : tb ≠ g := by omega
      have hm2 : Mod (fun k => k = tb) w' (w'.setCell ⟨tb, 2, none⟩ (.slice l.a l.n l.c)) := (Mod.refl (fun k => k = tb) w').setCell (p := ⟨tb, 2, none⟩) (.inl rfl) _
      have hm3 := (hm.mono (S' := fun k => k = g ∨ k = tb) (fun _ _ h => .inl h)).trans hm2 (fun _ _ h => .inr h)
      have hg1 : g + 1 ≤ w.heap.size := hgl
      refine ⟨hb.trans (hm3.toBelow (B := g) (Nat.le_of_lt hgl) (fun k hk e => by omega)), hpar.mod hm3 (by omega), _, d, kb, tb, ab, v1, tc, lk, hps'.far (p := ⟨tb, 2, none⟩) (fun e => htg e.symm) _, hrp, hroot, rfl, htx, ?_, ?_, hv1, ?_, hgt, .inr ⟨rfl, sl, el, sl2, el2, .string ⟨s.toArray⟩, l, vs, outs, ?_, ?_, ?_, hn, ?_, hout⟩⟩
      · exact own_mod hrt hm3 (fun q hq e => by
          rcases e with e | e
          · have := ownBase hrt hq.symm; omega
          · subst e; exact own_ne hrt hkt (by decide) hq.symm)
      · exact hdoc.mod hm3 (fun e => by
          rcases e with e | e
          · exact Blk.ne_ hdoc hps (by decide) e
          · exact Blk.ne_ hdoc hkt (by decide) e)
      · exact own_mod hrow hm3 (fun q hq e => by
          rcases e with e | e
          · have := ownBase hrow hq.symm; omega
          · subst e; exact own_ne hrow hkt (by decide) hq.symm)
      · exact hkp.mod hm3 (fun e => by
          rcases e with e | e
          · exact Blk.ne_ hkp hps (by decide) e
          · exact Blk.ne_ hkp hkt (by decide) e)
      · exact hkt'.set_ 2 _
      · exact own_base (own_far hrl (p := ⟨tb, 2, none⟩) (own_ne hrl hkt' (by decide)) _) hg1
      · exact (hits.mod hm2 (fun k ty cs hbk _ _ ht e => by subst e; exact Blk.ne_ hbk hkt' ht rfl)).base hg1
    · omega
set_option maxRecDepth 20000 in
theorem HTML_par1 (o : Opt) (s out : List UInt8) (w : World) (hs : ParLine ⟨s.toArray⟩) (hno : 10 ∉ s ∧ 13 ∉ s ∧ 0 ∉ s) (href : RefNo s) (hi : InlC1 o s out) (ht : o.tasks = false) (hol : out.length ≤ 900000) :
    Calls Tryz.prog 11 #[o.v, .string ⟨s.toArray⟩] w fun e w' => e = .returned (.string ⟨(paraOut out).toArray⟩) ∧ Below w.heap.size w w' := by
  refine HTML_gen2 o _ w (paraOut out) (fun pb w1 hbw hblkp => ?_)
  have hsz := hs.size
  have hsl : s.length ≤ 100000 := by rw [sz_mk] at hsz; exact hsz
  have hpb : pb < w1.heap.size := hblkp.lt
  have hpo := paraOut_len out
  have hpar : Calls Tryz.prog 43 #[.pointer (some ⟨pb, 0, none⟩), .string ⟨s.toArray⟩] w1 fun e w' => ∃ d c, e = .returned (.tuple #[.pointer (some ⟨d, 0, none⟩), .bool c]) ∧ DocPrints w' d (paraOut out) ∧ Below w1.heap.size w1 w' := by
    refine (parse_gen2 pb _ w1 1 (ParInv pb w1.heap.size w1 o s) (ParFin1 pb w1.heap.size w1 o s out) (by omega) (idxB_not _ 0 hno.2.2) (parH1 pb w1.heap.size w1 o s out hs ⟨hno.1, hno.2.1⟩ href hpb hi ht) ?_).mono ?_
    · intro w' bn hps hb
      refine (addBlock_top (w1.heap.size + 1) w1.heap.size (ps0 pb) [] w' 98 (.pointer (some ⟨bn, 0, none⟩)) hps.lt hps ⟨rfl, World.ownsRow_nil _ _ _ _⟩ rfl (by simp)).mono ?_
      rintro e w2 ⟨rfl, v, hps1, hst, _, hm⟩
      refine ⟨rfl, ?_, ?_, v, some ⟨bn, 0, none⟩, .inl ⟨rfl, rfl, hps1, hst⟩⟩
      · exact hb.trans (hm.toBelow (B := w1.heap.size) hb.size (fun k hk e => by
          rcases e with e | e
          · omega
          · simp [ps0, Sl.nil, Value.ownBlock] at e))
      · refine (hblkp.mod (S := fun _ => False) (Mod.below' hb) (fun x => x)).mod hm (fun e => ?_)
        rcases e with e | e
        · omega
        · simp [ps0, Sl.nil, Value.ownBlock] at e
    · rintro e w' ⟨ta, r, k, rfl, hps, w0, ⟨hb, _, r0, d, kb, tb, ab, v1, tc, lk, hps0, _, hroot, _, _, _, hdoc, hv1, hrow, _, hk⟩, rfl⟩
      have h1 := hps.c1
      have h2 := hps0.c1
      rw [show (w0.drewN k).cell? ⟨w1.heap.size, 1, none⟩ = w0.cell? ⟨w1.heap.size, 1, none⟩ from rfl, h2, hroot] at h1
      simp only [Option.some.injEq, Value.pointer.injEq] at h1
      rw [← h1]
      rcases hk with ⟨h, _⟩ | ⟨_, hpar⟩
      · omega
      · refine ⟨d, _, rfl, ⟨0, 0, v1, lk, w1.heap.size + 1, [parV kb], [paraOut out], hdoc, ?_, by omega, by simp, by omega, rfl, ?_⟩, below_drewN hb k⟩
        · rw [hv1]; exact World.ownsRow.drewN hrow k
        · intro b i y x hbz hy hx
          cases i with
          | zero =>
            simp at hy hx
            subst hy hx
            exact par_prints _ (w1.heap.size + 1) b kb tb _ out hbz (hpar.drewN k)
          | succ i => simp at hy
  go_enter Tryz.func29, Tryz.ntmps29
  go_wp2_with (go_at_call 43; refine hpar.mono ?_; rintro e w1 ⟨d, c, rfl, hd, hb⟩)
  go_ret
  exact ⟨d, rfl, hd, hb⟩
end Go.Proofs.YtmmijmhdbpldpaaGreatDoor
