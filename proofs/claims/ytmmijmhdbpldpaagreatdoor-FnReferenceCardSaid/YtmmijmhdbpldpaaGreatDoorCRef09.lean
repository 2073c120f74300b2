/- Texts of this proof, joined: A strings.Builder: what writing into it and reading it out do, Labels of links: where there is none; a label's normal form, A label's normal form; a link's destination. -/
import Derived.Test.YtmmijmhdbpldpaaGreatDoorCRef08
import Derived.Test.YtmmijmhdbpldpaaGreatDoorCRef03
import Derived.Test.YtmmijmhdbpldpaaGreatDoorCRef01
import Derived.Test.YtmmijmhdbpldpaaGreatDoorCRef07
import Derived.Deep.QuietTactic
import Derived.Test.YtmmijmhdbpldpaaGreatDoorCRef04
import Derived.Great.BuildSlice
import Derived.Test.YtmmijmhdbpldpaaGreatDoorCRef05
import Derived.BigRegion
/- A strings.Builder: what writing into it and reading it out do. -/


namespace Go.Proofs.YtmmijmhdbpldpaaGreatDoor
open Go.RowKit
/-- What a strings.Builder holds. -/
def IsBld (B b : Nat) (l : List UInt8) (w : World) : Prop := Lib.IsBuilder 58 5 B b (Lib.byteCells l) w
theorem bldSize : (Tryz.prog.info? 58).map (·.size) = some 2 := by kernel_rfl
theorem bldLies : liesAt Tryz.prog Tryz.prog.depth 58 (2 / Tryz.prog.cellsOf 58) 0 58 1 = true := by kernel_rfl
theorem bldExtraT : Builder.Extra Tryz.prog Tryz.layXT_ren where
  sizeBuilder := by kernel_rfl
  liesBuilder := by kernel_rfl
  t5 := Tryz.underlying5
  a5 := Tryz.isAgg5
  z5 := Tryz.sizeOf5
  v5 := Tryz.zeroValue5
  infoByte := by kernel_rfl
  cellsByte := by kernel_rfl
  sizeByte := by kernel_rfl
  neB5 := by decide
set_option maxRecDepth 100000 in
set_option maxHeartbeats 1000000 in
theorem bld_check_used (b : Nat) (w : World) (h0 : w.cell? ⟨b, 0, none⟩ = some (.pointer (some ⟨b, 0, none⟩))) :
    Calls Tryz.prog 47 #[.pointer (some ⟨b, 0, none⟩)] w fun e w' => e = .returned (.tuple #[]) ∧ w' = w := by
  obtain ⟨j, hj, _⟩ := Option.map_eq_some_iff.1 bldSize
  go_enter Tryz.func47, Tryz.ntmps47
  go_wp2
  rw [Lib.run_neq_ptr_same w _ Tryz.underlying55 hj]
  go_wp2
  go_end0
  exact ⟨rfl, rfl⟩
set_option maxRecDepth 100000 in
set_option maxHeartbeats 1000000 in
theorem bld_check_fresh (b : Nat) (w : World) (h0 : w.cell? ⟨b, 0, none⟩ = some (.pointer none)) (hsh : w.shape? b = some (58, 2)) (hfz : w.frozen? ⟨b, 0, none⟩ = false) :
    Calls Tryz.prog 47 #[.pointer (some ⟨b, 0, none⟩)] w fun e w' => e = .returned (.tuple #[]) ∧ w' = w.setCell ⟨b, 0, none⟩ (.pointer (some ⟨b, 0, none⟩)) := by
  obtain ⟨j, hj, hjs⟩ := Option.map_eq_some_iff.1 bldSize
  go_enter Tryz.func47, Tryz.ntmps47
  go_wp2
  rw [Lib.run_to_unsafe w ⟨b, 0, none⟩ Tryz.underlying55 Tryz.underlying113 hj (by rw [hjs]; decide) hsh (Nat.zero_lt_succ 1)]
  simp only [Result.andThen]
  rw [Oper.upon_value]
  go_wp2
  rw [run_callFunc_extern Tryz.func58 (by kernel_rfl) (by kernel_rfl) (by kernel_rfl) (e := Extern.AbiNoEscape.same) (by kernel_rfl)]
  rw [Lib.run_noEscape]
  simp only [Result.andThen]
  rw [Oper.upon_value]
  go_wp2
  rw [Lib.run_from_unsafe w ⟨b, 0, none⟩ Tryz.underlying113 Tryz.underlying55 hj hsh bldLies]
  simp only [Result.andThen]
  rw [Oper.upon_value]
  go_wp2
  go_end0
  exact ⟨rfl, rfl⟩
theorem bld_check (B b : Nat) (bs : List Value) (w : World) (h : Lib.IsBuilder 58 5 B b bs w) :
    Calls Tryz.prog 47 #[.pointer (some ⟨b, 0, none⟩)] w fun e w' => e = .returned (.tuple #[]) ∧ (Lib.BuilderAt 58 5 B b (.pointer (some ⟨b, 0, none⟩)) bs w' ∧ Below B w w') := by
  rcases h with h | h
  · refine (bld_check_fresh b w h.cell0 h.shape h.frozen0).mono ?_
    rintro e w' ⟨rfl, rfl⟩
    exact ⟨rfl, h.used _, (Below.refl B w).setCell (p := ⟨b, 0, none⟩) h.1 _⟩
  · refine (bld_check_used b w h.cell0).mono ?_
    rintro e w' ⟨rfl, rfl⟩
    exact ⟨rfl, h, Below.refl B _⟩
theorem infoByteB : (Tryz.prog.info? 5).map (fun i => (i.zero, i.size, i.bytes)) = some (some (.int .u8 0), 1, 1) := by kernel_rfl
set_option maxRecDepth 100000 in
set_option maxHeartbeats 2000000 in
theorem bld_byte (B b : Nat) (l : List UInt8) (c : UInt8) (w : World) (h : IsBld B b l w) (hBw : B ≤ w.heap.size) (hl : l.length + 1 ≤ 20000000) :
    Calls Tryz.prog 168 #[.pointer (some ⟨b, 0, none⟩), .int .u8 (c.toNat : Int)] w fun e w' => e = .returned .nilIface ∧ IsBld B b (l ++ [c]) w' ∧ Below B w w' := by
  obtain ⟨i0, hi, hz0, hz1, hz2⟩ := info_parts infoByteB
  have hbl : (Lib.byteCells l).length = l.length := Lib.byteCells_length _
  have hap : Lib.byteCells (l ++ [c]) = Lib.byteCells l ++ [.int .u8 (c.toNat : Int)] := Lib.byteCells_append _ _
  unfold IsBld at h ⊢
  rw [hap]
  generalize Lib.byteCells l = bs at h hbl ⊢
  clear hap
  go_enter Tryz.func168, Tryz.ntmps168
  go_wp2_with (go_at_call 47; refine (bld_check B b bs _ h).mono ?_)
  rintro e w1 ⟨rfl, h1, hb1⟩
  obtain ⟨hB, v, hbk, hown, hne⟩ := h1
  have c0 : w1.cell? ⟨b, 0, none⟩ = some (.pointer (some ⟨b, 0, none⟩)) := by rw [Lib.cell_of_heap hbk]; rfl
  have c1 : w1.cell? ⟨b, 1, none⟩ = some v := by rw [Lib.cell_of_heap hbk]; rfl
  go_wp2_with (at_builtin; refine wpList_append_own _ rfl _ _ 56 rfl B 5 i0 (.int .u8 0) 1 1 Tryz.underlying56 hi hz0 hz1 hz2 rfl (by decide) _ _ _ rfl (hown.alloc _) ⟨w1.heap.size, 0, none⟩ 1 1 [.int .u8 (c.toNat : Int)] rfl rfl ?c1 ?c2 ?c3 ?c4 ?c5 ?_)
  case c1 =>
    intro j u hj
    match j, hj with
    | 0, hj => simp at hj; subst hj; simp [Addr.add]
  case c2 => intro u hu; simp at hu; subst hu; rfl
  case c3 => unfold maxLen; omega
  case c4 => omega
  case c5 => have := hb1.size; simp; omega
  intro v' w2 hown' hgrow _
  rw [← hbl] at hown'
  have hlt : b < w1.heap.size := by
    rcases Nat.lt_or_ge b w1.heap.size with h' | h'
    · exact h'
    · simp [Array.getElem?_eq_none h'] at hbk
  have hb2 : w2.heap[b]? = some (.cells #[.pointer (some ⟨b, 0, none⟩), v] 58 (0, 0)) := by
    rw [hgrow.block b (by simp; omega) (fun e => hne e.symm), Lib.alloc_old w1 _ b hlt]
    exact hbk
  have d0 : w2.cell? ⟨b, 0, none⟩ = some (.pointer (some ⟨b, 0, none⟩)) := by rw [Lib.cell_of_heap hb2]; rfl
  have d1 : w2.cell? ⟨b, 1, none⟩ = some v := by rw [Lib.cell_of_heap hb2]; rfl
  have f1 : w2.frozen? ⟨b, 1, none⟩ = false := Lib.frozen_of_heap hb2 1
  obtain ⟨g, cap, rfl⟩ : ∃ g cap, v' = .slice (some ⟨g, 0, none⟩) (bs.length + 1) cap := by
    rcases hown'.2 with ⟨_, h0⟩ | ⟨g, cap, cur, hv, _⟩
    · omega
    · exact ⟨g, cap, hv⟩
  go_wp2
  go_ret
  refine ⟨rfl, ?_, ?_⟩
  · exact .inr (Lib.BuilderAt.put (T := 58) (e := 5) hB hb2 (bs' := bs ++ [.int .u8 (c.toNat : Int)]) (by simpa [hbl] using hown') (by decide))
  · exact ((hb1.alloc (by have := hb1.size; omega) _).grown hgrow (by have := hb1.size; simp; omega) (fun k hk => (hown.lt k hk).1)).setCell (p := ⟨b, 1, none⟩) hB _
set_option maxRecDepth 100000 in
set_option maxHeartbeats 2000000 in
theorem bld_str (B b : Nat) (l : List UInt8) (s : ByteArray) (w : World) (h : IsBld B b l w) (hBw : B ≤ w.heap.size) (hl : l.length + s.size ≤ 20000000) :
    Calls Tryz.prog 33 #[.pointer (some ⟨b, 0, none⟩), .string s] w fun e w' => e = .returned (.tuple #[.int .i64 s.size, .nilIface]) ∧ IsBld B b (l ++ s.data.toList) w' ∧ Below B w w' := by
  obtain ⟨i0, hi, hz0, hz1, hz2⟩ := info_parts infoByteB
  have hbl : (Lib.byteCells l).length = l.length := Lib.byteCells_length _
  have hap : Lib.byteCells (l ++ s.data.toList) = Lib.byteCells l ++ Lib.strCells s := Lib.byteCells_append _ _
  unfold IsBld at h ⊢
  rw [hap]
  generalize Lib.byteCells l = bs at h hbl ⊢
  clear hap
  go_enter Tryz.func33, Tryz.ntmps33
  go_wp2_with (go_at_call 47; refine (bld_check B b bs _ h).mono ?_)
  rintro e w1 ⟨rfl, h1, hb1⟩
  obtain ⟨hB, v, hbk, hown, hne⟩ := h1
  have c0 : w1.cell? ⟨b, 0, none⟩ = some (.pointer (some ⟨b, 0, none⟩)) := by rw [Lib.cell_of_heap hbk]; rfl
  have c1 : w1.cell? ⟨b, 1, none⟩ = some v := by rw [Lib.cell_of_heap hbk]; rfl
  go_wp2_with (at_builtin; refine Lib.wpList_append_own_string _ rfl _ _ 56 9 rfl B 5 i0 Tryz.underlying56 Tryz.underlying9 hi hz0 hz1 hz2 _ _ _ rfl hown s rfl ?c3 ?c4 ?c5 ?_)
  case c3 => unfold maxLen; omega
  case c4 => omega
  case c5 => have := hb1.size; omega
  intro v' w2 hown' hgrow _
  rw [← hbl] at hown'
  have hlt : b < w1.heap.size := by
    rcases Nat.lt_or_ge b w1.heap.size with h' | h'
    · exact h'
    · simp [Array.getElem?_eq_none h'] at hbk
  have hb2 : w2.heap[b]? = some (.cells #[.pointer (some ⟨b, 0, none⟩), v] 58 (0, 0)) := by
    rw [hgrow.block b hlt (fun e => hne e.symm)]
    exact hbk
  have d0 : w2.cell? ⟨b, 0, none⟩ = some (.pointer (some ⟨b, 0, none⟩)) := by rw [Lib.cell_of_heap hb2]; rfl
  have d1 : w2.cell? ⟨b, 1, none⟩ = some v := by rw [Lib.cell_of_heap hb2]; rfl
  have f1 : w2.frozen? ⟨b, 1, none⟩ = false := Lib.frozen_of_heap hb2 1
  obtain ⟨ao, n', cap, rfl⟩ : ∃ ao n' cap, v' = .slice ao n' cap := by
    rcases hown'.2 with ⟨hv, _⟩ | ⟨g, cap, cur, hv, _⟩
    · exact ⟨_, _, _, hv⟩
    · exact ⟨_, _, _, hv⟩
  go_wp2
  go_ret2
  refine ⟨rfl, ?_, ?_⟩
  · exact .inr (Lib.BuilderAt.put (T := 58) (e := 5) hB hb2 (bs' := bs ++ Lib.strCells s) (by simpa [Lib.strCells_length] using hown') (by decide))
  · exact (hb1.grown hgrow (by have := hb1.size; omega) (fun k hk => (hown.lt k hk).1)).setCell (p := ⟨b, 1, none⟩) hB _
theorem bld_string (B b : Nat) (bs : List UInt8) (w : World) (h : IsBld B b bs w) (hB : B ≤ w.heap.size) :
    Calls Tryz.prog 35 #[.pointer (some ⟨b, 0, none⟩)] w fun e w' => e = .returned (.string ⟨bs.toArray⟩) ∧ Below B w w' := Any.Builder_String_any Tryz.layXT bldExtraT B b bs w h hB
end Go.Proofs.YtmmijmhdbpldpaaGreatDoor
/- Labels of links: where there is none; a label's normal form. -/





namespace Go.Proofs.YtmmijmhdbpldpaaGreatDoor
open Go.RowKit
/-- A letter or digit of the laws' words. -/
def LDw (z : Int) : Prop := z = 97 ∨ z = 98 ∨ z = 122 ∨ z = 48 ∨ z = 49 ∨ z = 57
theorem LDw.eqs {z : Int} (h : LDw z) : (z == 32) = false ∧ (z == 9) = false ∧ (z == 10) = false ∧ (z == 91) = false ∧ (z == 93) = false ∧ (z == 92) = false ∧ (z == 58) = false := by
  rcases h with rfl | rfl | rfl | rfl | rfl | rfl <;> exact ⟨rfl, rfl, rfl, rfl, rfl, rfl, rfl⟩
theorem ext_all (s : ByteArray) : s.extract 0 s.size = s := by
  rw [extract_mk, List.drop_zero, List.take_of_length_le (by rw [← Lib.size_eq]; exact Nat.le_refl _)]
theorem trimSTN_self (s : ByteArray) (n : Nat) (w : World) (hn : s.size = n + 1) (hs : s.size ≤ 100000) (h0 : LDw (bt s 0)) (h1 : LDw (bt s n)) :
    Calls Tryz.prog 167 #[.string s] w fun e w' => e = .returned (.string s) ∧ w = w' := by
  have hb := get_bt s
  obtain ⟨a1, a2, a3, _⟩ := h0.eqs
  obtain ⟨b1, b2, b3, _⟩ := h1.eqs
  have he := ext_all s
  rw [hn] at he
  clear h0 h1
  go_enter Tryz.func167, Tryz.ntmps167
  go_wp2_with fail
  refine wp_loop_rounds 1 ?_
  rw [rounds_succ]
  go_wp2_with fail
  refine wp_loop_rounds 1 ?_
  rw [rounds_succ]
  go_wp2_with fail
  go_ret
  exact ⟨rfl, rfl⟩
theorem label_nest (p : Value) (s : ByteArray) (i : Nat) (w : World) (hs : s.size ≤ 1000000) (hi : i + 1 < s.size) (h0 : bt s i = 91) (h1 : bt s (i + 1) = 91) :
    Calls Tryz.prog 117 #[p, .string s, .int .i64 i] w fun e w' => e = .returned (.tuple #[.string ⟨#[]⟩, .int .i64 0, .bool false]) ∧ w = w' := by
  have hb := get_bt s
  have e0 : (bt s i == 91) = true := by simpa using h0
  have e0' : (bt s i != 91) = false := by simp [bne, e0]
  have e1 : (bt s (i + 1) == 91) = true := by simpa using h1
  have e2 : (bt s (i + 1) == 93) = false := by rw [h1]; rfl
  clear h0 h1
  go_enter Tryz.func117, Tryz.ntmps117
  go_wp2_with fail
  refine wp_loop_rounds 1 ?_
  rw [rounds_succ]
  go_wp2_with fail
  refine bodyPost_ret (by simp [results, Tryz.results117, go_sem]; try rfl) rfl ?_
  exact ⟨rfl, rfl⟩
set_option maxHeartbeats 800000 in
theorem label_word (p : Value) (s : ByteArray) (i n : Nat) (w : World) (hs : s.size ≤ 100000) (hn : n ≤ 100) (hi : i + 2 + n < s.size) (h0 : bt s i = 91) (h1 : ∀ m, i < m → m < i + 2 + n → LDw (bt s m)) (h2 : bt s (i + 2 + n) = 93) :
    Calls Tryz.prog 117 #[p, .string s, .int .i64 i] w fun e w' => e = .returned (.tuple #[.string (s.extract (i + 1) (i + 2 + n)), .int .i64 ((i : Int) + 2 + n + 1), .bool true]) ∧ w = w' := by
  have hb := get_bt s
  have e0 : (bt s i == 91) = true := by simpa using h0
  have e0' : (bt s i != 91) = false := by simp [bne, e0]
  have e2 : (bt s (i + 2 + n) == 93) = true := by simpa using h2
  have hxs : (s.extract (i + 1) (i + 2 + n)).size = n + 1 := by rw [ByteArray.size_extract]; omega
  have hbe : ∀ m, m < n + 1 → bt (s.extract (i + 1) (i + 2 + n)) m = bt s (i + 1 + m) := fun m hm => by
    have e : s = ⟨s.data.toList.toArray⟩ := ByteArray.ext Array.toArray_toList.symm
    have e3 : bt s (i + 1 + m) = bt ⟨s.data.toList.toArray⟩ (i + 1 + m) := by rw [← e]
    rw [e3, extract_mk, bt_list, bt_list, List.getElem?_drop, List.getElem?_take, if_pos (by omega)]
  have HT := hid (trimSTN_self (s.extract (i + 1) (i + 2 + n)) n w hxs (by omega) (by rw [hbe 0 (by omega)]; exact h1 _ (by omega) (by omega)) (by rw [hbe n (by omega)]; exact h1 _ (by omega) (by omega)))
  have hne : (s.extract (i + 1) (i + 2 + n)).toList.isEmpty = false := by
    rw [← decide_eq_emptyBytes]
    refine decide_eq_false (fun e => ?_)
    rw [e] at hxs
    have : ByteArray.empty.size = 0 := rfl
    omega
  have H1 := hid h1
  clear h0 h1 h2 hbe hxs
  go_enter Tryz.func117, Tryz.ntmps117
  go_wp2_with fail
  go_loopw [9] (fun t9 wr => ∃ m : Nat, t9 = .int .i64 m ∧ i < m ∧ m ≤ i + 2 + n ∧ wr = w) (fun t9 _ => i + 3 + n - (intOf t9).toNat)
  case atStart => exact ⟨i + 1, by go_num, by omega, by omega, rfl⟩
  case round =>
    obtain ⟨m, rfl, hm1, hm2, rfl⟩ := hrel
    by_cases hlt : m < i + 2 + n
    · obtain ⟨_, _, _, z91, z93, z92, _⟩ := (H1.out m hm1 hlt).eqs
      go_wp2_with fail
      go_roundw
      case rel => exact ⟨m + 1, by go_num, by omega, by omega, trivial⟩
      case measure => simp [intOf]; omega
    · obtain rfl : m = i + 2 + n := by omega
      go_wp2_with fail
      refine HT.out.mono ?_
      rintro e w1 ⟨rfl, rfl⟩
      go_wp2_with fail
      refine bodyPost_ret (by simp [results, Tryz.results117, go_sem]; try rfl) rfl ?_
      exact ⟨rfl, rfl⟩
set_option maxRecDepth 20000 in
/-- A text that begins with brackets around a word has no definition at its head. -/
theorem refNo_nest (T : List UInt8) (hl : T.length ≤ 100000) (h1 : 1 < T.length) (h0 : bt ⟨T.toArray⟩ 0 = 91) (h2 : bt ⟨T.toArray⟩ 1 = 91) : RefNo T := by
  intro g w
  have hz : (ByteArray.mk T.toArray).size = T.length := List.size_toArray ..
  have ta := ta_bs g
  have HS := hid (skipSpace_no ⟨T.toArray⟩ 0 w (by omega) (by omega) (by rw [h0]; decide))
  have HL := hid (label_nest (.pointer (some ⟨g, 0, none⟩)) ⟨T.toArray⟩ 0 w (by omega) (by omega) h0 h2)
  clear h0 h2
  go_enter Tryz.func283, Tryz.ntmps283
  go_wp2_with fail
  refine HS.out.mono ?_
  rintro e w1 ⟨rfl, rfl⟩
  go_wp2_with fail
  refine HL.out.mono ?_
  rintro e w1 ⟨rfl, rfl⟩
  go_wp2_with fail
  go_ret2
  exact ⟨rfl, rfl⟩
set_option maxRecDepth 20000 in
theorem refNo_word (T : List UInt8) (n : Nat) (hl : T.length ≤ 100000) (hn : n ≤ 100) (hi : 3 + n < T.length) (h0 : bt ⟨T.toArray⟩ 0 = 91) (h1 : ∀ m, 0 < m → m < 2 + n → LDw (bt ⟨T.toArray⟩ m)) (h2 : bt ⟨T.toArray⟩ (2 + n) = 93) (h3 : bt ⟨T.toArray⟩ (3 + n) ≠ 58) : RefNo T := by
  intro g w
  have hz : (ByteArray.mk T.toArray).size = T.length := List.size_toArray ..
  have hb := get_bt ⟨T.toArray⟩
  have ta := ta_bs g
  have HS := hid (skipSpace_no ⟨T.toArray⟩ 0 w (by omega) (by omega) (by rw [h0]; decide))
  have HL := hid (label_word (.pointer (some ⟨g, 0, none⟩)) ⟨T.toArray⟩ 0 n w (by omega) hn (by omega) h0 (fun m m1 m2 => h1 m m1 (by omega)) (by rw [Nat.zero_add]; exact h2))
  have e3 : (bt ⟨T.toArray⟩ (3 + n) == 58) = false := by simpa using h3
  have e3' : (bt ⟨T.toArray⟩ (3 + n) != 58) = true := by simp [bne, e3]
  have ei : ((0 : Nat) : Int) + 2 + n + 1 = ((3 + n : Nat) : Int) := by omega
  rw [ei] at HL
  clear h0 h1 h2 h3 ei
  go_enter Tryz.func283, Tryz.ntmps283
  go_wp2_with fail
  refine HS.out.mono ?_
  rintro e w1 ⟨rfl, rfl⟩
  go_wp2_with fail
  refine HL.out.mono ?_
  rintro e w1 ⟨rfl, rfl⟩
  go_wp2_with fail
  go_ret2
  exact ⟨rfl, rfl⟩
end Go.Proofs.YtmmijmhdbpldpaaGreatDoor
/- A label's normal form; a link's destination. -/



namespace Go.Proofs.YtmmijmhdbpldpaaGreatDoor
open Go.RowKit
theorem zzHas_no (s : ByteArray) (c : UInt8) (w : World) (hs : s.size ≤ 100000) (h : c ∉ s.data.toList) : Calls Tryz.prog 50 #[.string s, .string ⟨#[c]⟩] w fun e w' => e = .returned (.bool false) ∧ w = w' := by
  have hi : idxB c s.data.toList = -1 := idxB_not _ _ h
  refine (zzContains1 s c w (by omega)).mono ?_
  rintro e w' ⟨rfl, rfl⟩
  rw [hi]
  exact ⟨rfl, rfl⟩
theorem zzHas_yes (s : ByteArray) (c : UInt8) (w : World) (hs : s.size ≤ 100000) (h : s.data.toList[0]? = some c) : Calls Tryz.prog 50 #[.string s, .string ⟨#[c]⟩] w fun e w' => e = .returned (.bool true) ∧ w = w' := by
  have hi : 0 ≤ idxB c s.data.toList := by
    rw [idxB_at _ _ 0 (fun j hj => by omega) h]
    decide
  refine (zzContains1 s c w (by omega)).mono ?_
  rintro e w' ⟨rfl, rfl⟩
  rw [decide_eq_true hi]
  exact ⟨rfl, rfl⟩
theorem normLabel_br (s : ByteArray) (w : World) (hs : s.size ≤ 100000) (h : s.data.toList[0]? = some 91) : Calls Tryz.prog 118 #[.string s] w fun e w' => e = .returned (.string ⟨#[]⟩) ∧ w = w' := by
  have HZ := hid (zzHas_yes s 91 w hs h)
  clear h
  go_enter Tryz.func118, Tryz.ntmps118
  go_wp2_with fail
  refine HZ.out.mono ?_
  rintro e w1 ⟨rfl, rfl⟩
  go_wp2_with fail
  go_ret
  exact ⟨rfl, rfl⟩
def NormR (s : ByteArray) (w : World) (t6 : Value) (wr : World) : Prop := ∃ i : Nat, i ≤ s.size ∧ t6 = .int .i64 i ∧ IsBld w.heap.size w.heap.size (s.data.toList.take i) wr ∧ Below w.heap.size w wr
set_option maxRecDepth 20000 in
set_option maxHeartbeats 1600000 in
theorem normLabel_word (s : ByteArray) (n : Nat) (w : World) (hn : s.size = n + 1) (hs : s.size ≤ 1000) (hc : ∀ m, m < s.size → LDw (bt s m)) (h91 : 91 ∉ s.data.toList) (h93 : 93 ∉ s.data.toList) :
    Calls Tryz.prog 118 #[.string s] w fun e w' => e = .returned (.string s) ∧ Below w.heap.size w w' := by
  have hb := get_bt s
  have HL := hid (Lib.size_eq s)
  have HZ1 := hid (zzHas_no s 91 w (by omega) h91)
  have HZ2 := hid (zzHas_no s 93 w (by omega) h93)
  have HT := hid (trimSTN_self s n w hn (by omega) (hc 0 (by omega)) (hc n (by omega)))
  have HC := hid hc
  have HN := hid hn
  clear hc h91 h93 hn
  go_enter Tryz.func118, Tryz.ntmps118
  go_wp2_with fail
  refine HZ1.out.mono ?_
  rintro e w1 ⟨rfl, rfl⟩
  go_wp2_with fail
  refine HZ2.out.mono ?_
  rintro e w1 ⟨rfl, rfl⟩
  go_wp2_with fail
  refine HT.out.mono ?_
  rintro e w1 ⟨rfl, rfl⟩
  clear HZ1 HZ2 HT
  go_wp2_with fail
  go_loopw [4, 5, 6] (fun t4 t5 t6 wr => t4 = .bool false ∧ t5 = .bool false ∧ NormR s w t6 wr) (fun _ _ t6 _ => s.size - (intOf t6).toNat)
  case atStart => exact ⟨rfl, rfl, 0, Nat.zero_le _, rfl, by unfold IsBld; simpa [Lib.byteCells] using Lib.fresh_isBuilder 58 5 w, (Below.refl _ _).alloc (Nat.le_refl _) _⟩
  case round =>
    obtain ⟨rfl, rfl, i, hi, rfl, hbd, hbe⟩ := hrel
    have hlw : w.heap.size ≤ wr.heap.size := hbe.size
    have HBD := hid hbd
    have HBE := hid hbe
    clear hbd hbe
    by_cases hlt : i < s.size
    · have hll : i < s.data.toList.length := by rw [← HL.out]; exact hlt
      have hbt : bt s i = ((s.data.toList[i]'hll).toNat : Int) := by unfold bt; rw [dif_pos hlt]; rfl
      have htl : (s.data.toList.take i).length ≤ 1000 := by rw [List.length_take]; omega
      have hwb := hid (bld_byte w.heap.size w.heap.size (s.data.toList.take i) (s.data.toList[i]'hll) wr HBD.out hlw (by omega))
      have hT1 := hid (show s.data.toList.take i ++ [s.data.toList[i]'hll] = s.data.toList.take (i + 1) by rw [List.take_add_one, List.getElem?_eq_getElem hll]; rfl)
      rw [← hbt] at hwb
      have hz := HC.out i hlt
      obtain ⟨z32, z9, z10, _⟩ := hz.eqs
      have z65 : ¬ (65 ≤ bt s i ∧ bt s i ≤ 90) := by unfold LDw at hz; omega
      have z128 : bt s i < 128 := by unfold LDw at hz; omega
      generalize s.data.toList[i]'hll = c0 at hwb hT1
      clear hbt hll htl hz
      by_cases z65a : bt s i < 65
      · go_wp2_with fail
        refine hwb.out.mono ?_
        rintro e w2 ⟨rfl, hb2, hl2⟩
        have HB2 := hid hb2
        have HL2 := hid (HBE.out.trans hl2)
        clear hb2 hl2
        go_wp2_with fail
        go_roundw
        case rel => exact ⟨rfl, rfl, i + 1, by omega, by go_num, by rw [← hT1.out]; exact HB2.out, HL2.out⟩
        case measure => simp [intOf]; omega
      · have z90 : 90 < bt s i := by omega
        go_wp2_with fail
        refine hwb.out.mono ?_
        rintro e w2 ⟨rfl, hb2, hl2⟩
        have HB2 := hid hb2
        have HL2 := hid (HBE.out.trans hl2)
        clear hb2 hl2
        go_wp2_with fail
        go_roundw
        case rel => exact ⟨rfl, rfl, i + 1, by omega, by go_num, by rw [← hT1.out]; exact HB2.out, HL2.out⟩
        case measure => simp [intOf]; omega
    · obtain rfl : i = s.size := by omega
      have ht : s.data.toList.take s.size = s.data.toList := List.take_of_length_le (by rw [← HL.out]; exact Nat.le_refl _)
      have HBS := hid (bld_string w.heap.size w.heap.size _ wr HBD.out hlw)
      rw [ht] at HBS
      clear ht
      go_wp2_with fail
      refine HBS.out.mono ?_
      rintro e w2 ⟨rfl, hb2⟩
      have HL2 := hid (HBE.out.trans hb2)
      clear hb2
      go_wp2_with fail
      go_ret
      exact ⟨rfl, HL2.out⟩
theorem linkCorner_no (s : ByteArray) (w : World) (hs : s.size ≤ 100000) (h : ∀ m, m < s.size → bt s m ≠ 37) : Calls Tryz.prog 80 #[.string s] w fun e w' => e = .returned (.bool false) ∧ w = w' := by
  have hb := get_bt s
  have H := hid h
  clear h
  go_enter Tryz.func80, Tryz.ntmps80
  go_wp2_with fail
  go_loopw [3] (fun t3 wr => ∃ m : Nat, t3 = .int .i64 m ∧ m ≤ s.size ∧ wr = w) (fun t3 _ => s.size - (intOf t3).toNat)
  case atStart => exact ⟨0, rfl, Nat.zero_le _, rfl⟩
  case round =>
    obtain ⟨m, rfl, hm, rfl⟩ := hrel
    by_cases hlt : m < s.size
    · have e37 : (bt s m == 37) = false := by simpa using H.out m hlt
      go_wp2_with fail
      go_roundw
      case rel => exact ⟨m + 1, by go_num, hlt, trivial⟩
      case measure => simp [intOf]; omega
    · go_wp2_with fail
      go_ret
      exact ⟨rfl, rfl⟩
theorem mdUnescape_self (s : ByteArray) (w : World) (hs : s.size ≤ 100000) (h1 : 92 ∉ s.data.toList) (h2 : 38 ∉ s.data.toList) : Calls Tryz.prog 165 #[.string s] w fun e w' => e = .returned (.string s) ∧ w = w' := by
  have HZ1 := hid (zzHas_no s 92 w hs h1)
  have HZ2 := hid (zzHas_no s 38 w hs h2)
  clear h1 h2
  go_enter Tryz.func165, Tryz.ntmps165
  go_wp2_with fail
  refine HZ1.out.mono ?_
  rintro e w1 ⟨rfl, rfl⟩
  go_wp2_with fail
  refine HZ2.out.mono ?_
  rintro e w1 ⟨rfl, rfl⟩
  go_wp2_with fail
  go_ret
  exact ⟨rfl, rfl⟩
/-- What stands in the destinations of the laws. -/
def DC (z : Int) : Prop := z = 97 ∨ z = 98 ∨ z = 47 ∨ z = 46
theorem DC.eqs {z : Int} (h : DC z) : (z == 60) = false ∧ (z == 40) = false ∧ (z == 41) = false ∧ (z == 92) = false ∧ (z == 32) = false ∧ (z == 9) = false ∧ (z == 10) = false := by
  rcases h with rfl | rfl | rfl | rfl <;> exact ⟨rfl, rfl, rfl, rfl, rfl, rfl, rfl⟩
set_option maxRecDepth 20000 in
set_option maxHeartbeats 1600000 in
theorem linkDest_any (s : ByteArray) (i k : Nat) (w : World) (hs : s.size ≤ 100000) (hik : i < k) (hk : k < s.size) (hc : ∀ m, i ≤ m → m < k → DC (bt s m)) (h41 : bt s k = 41) (h1 : 92 ∉ (s.extract i k).data.toList) (h2 : 38 ∉ (s.extract i k).data.toList) :
    Calls Tryz.prog 115 #[.string s, .int .i64 i] w fun e w' => e = .returned (.tuple #[.string (s.extract i k), .int .i64 k, .bool true]) ∧ w = w' := by
  have hb := get_bt s
  have e60 := (hc i (Nat.le_refl _) hik).eqs.1
  have e41 : (bt s k == 41) = true := by simpa using h41
  have e40 : (bt s k == 40) = false := by rw [h41]; rfl
  have HU := hid (mdUnescape_self (s.extract i k) w (by rw [ByteArray.size_extract]; omega) h1 h2)
  have HC := hid hc
  clear hc h41 h1 h2
  go_enter Tryz.func115, Tryz.ntmps115
  go_wp2_with fail
  go_step3
  go_wp2_with fail
  go_step3
  go_wp2_with fail
  go_loopw [8, 9] (fun t8 t9 wr => t8 = .int .i64 0 ∧ ∃ m : Nat, t9 = .int .i64 m ∧ i ≤ m ∧ m ≤ k ∧ wr = w) (fun _ t9 _ => k + 1 - (intOf t9).toNat)
  case atStart => exact ⟨rfl, i, rfl, Nat.le_refl _, by omega, rfl⟩
  case round =>
    obtain ⟨rfl, m, rfl, hm1, hm2, rfl⟩ := hrel
    by_cases hlt : m < k
    · obtain ⟨_, z40, z41, z92, z32, z9, z10⟩ := (HC.out m hm1 hlt).eqs
      go_wp2_with fail
      go_roundw
      case rel => exact ⟨rfl, m + 1, by go_num, by omega, by omega, trivial⟩
      case measure => simp [intOf]; omega
    · obtain rfl : m = k := by omega
      go_wp2_with fail
      refine HU.out.mono ?_
      rintro e w1 ⟨rfl, rfl⟩
      go_wp2_with fail
      all_goals (try rw [Exit.noGoto_ret])
      refine bodyPost_ret (by simp [results, Tryz.results115, go_sem]; try rfl) rfl ?_
      exact ⟨rfl, rfl⟩
end Go.Proofs.YtmmijmhdbpldpaaGreatDoor
/- The pairs that escape a link's destination. -/


namespace Go.Proofs.YtmmijmhdbpldpaaGreatDoor
open Go.RowKit
def linkL : List Value := [.string ⟨#[34]⟩, .string ⟨#[37, 50, 50]⟩, .string ⟨#[38]⟩, .string ⟨#[38, 97, 109, 112, 59]⟩, .string ⟨#[60]⟩, .string ⟨#[37, 51, 67]⟩, .string ⟨#[62]⟩, .string ⟨#[37, 51, 69]⟩, .string ⟨#[92]⟩, .string ⟨#[37, 53, 67]⟩, .string ⟨#[32]⟩, .string ⟨#[37, 50, 48]⟩, .string ⟨#[96]⟩, .string ⟨#[37, 54, 48]⟩, .string ⟨#[91]⟩, .string ⟨#[37, 53, 66]⟩, .string ⟨#[93]⟩, .string ⟨#[37, 53, 68]⟩, .string ⟨#[94]⟩, .string ⟨#[37, 53, 69]⟩, .string ⟨#[123]⟩, .string ⟨#[37, 55, 66]⟩, .string ⟨#[125]⟩, .string ⟨#[37, 55, 68]⟩, .string ⟨#[0]⟩, .string ⟨#[37, 48, 48]⟩, .string ⟨#[1]⟩, .string ⟨#[37, 48, 49]⟩, .string ⟨#[2]⟩, .string ⟨#[37, 48, 50]⟩, .string ⟨#[3]⟩, .string ⟨#[37, 48, 51]⟩, .string ⟨#[4]⟩, .string ⟨#[37, 48, 52]⟩, .string ⟨#[5]⟩, .string ⟨#[37, 48, 53]⟩, .string ⟨#[6]⟩, .string ⟨#[37, 48, 54]⟩, .string ⟨#[7]⟩, .string ⟨#[37, 48, 55]⟩, .string ⟨#[8]⟩, .string ⟨#[37, 48, 56]⟩, .string ⟨#[11]⟩, .string ⟨#[37, 48, 66]⟩, .string ⟨#[12]⟩, .string ⟨#[37, 48, 67]⟩, .string ⟨#[14]⟩, .string ⟨#[37, 48, 69]⟩, .string ⟨#[15]⟩, .string ⟨#[37, 48, 70]⟩, .string ⟨#[16]⟩, .string ⟨#[37, 49, 48]⟩, .string ⟨#[17]⟩, .string ⟨#[37, 49, 49]⟩, .string ⟨#[18]⟩, .string ⟨#[37, 49, 50]⟩, .string ⟨#[19]⟩, .string ⟨#[37, 49, 51]⟩, .string ⟨#[20]⟩, .string ⟨#[37, 49, 52]⟩, .string ⟨#[21]⟩, .string ⟨#[37, 49, 53]⟩, .string ⟨#[22]⟩, .string ⟨#[37, 49, 54]⟩, .string ⟨#[23]⟩, .string ⟨#[37, 49, 55]⟩, .string ⟨#[24]⟩, .string ⟨#[37, 49, 56]⟩, .string ⟨#[25]⟩, .string ⟨#[37, 49, 57]⟩, .string ⟨#[26]⟩, .string ⟨#[37, 49, 65]⟩, .string ⟨#[27]⟩, .string ⟨#[37, 49, 66]⟩, .string ⟨#[28]⟩, .string ⟨#[37, 49, 67]⟩, .string ⟨#[29]⟩, .string ⟨#[37, 49, 68]⟩, .string ⟨#[30]⟩, .string ⟨#[37, 49, 69]⟩, .string ⟨#[31]⟩, .string ⟨#[37, 49, 70]⟩, .string ⟨#[127]⟩, .string ⟨#[37, 55, 70]⟩, .string ⟨#[128]⟩, .string ⟨#[37, 56, 48]⟩, .string ⟨#[129]⟩, .string ⟨#[37, 56, 49]⟩, .string ⟨#[130]⟩, .string ⟨#[37, 56, 50]⟩, .string ⟨#[131]⟩, .string ⟨#[37, 56, 51]⟩, .string ⟨#[132]⟩, .string ⟨#[37, 56, 52]⟩, .string ⟨#[133]⟩, .string ⟨#[37, 56, 53]⟩, .string ⟨#[134]⟩, .string ⟨#[37, 56, 54]⟩, .string ⟨#[135]⟩, .string ⟨#[37, 56, 55]⟩, .string ⟨#[136]⟩, .string ⟨#[37, 56, 56]⟩, .string ⟨#[137]⟩, .string ⟨#[37, 56, 57]⟩, .string ⟨#[138]⟩, .string ⟨#[37, 56, 65]⟩, .string ⟨#[139]⟩, .string ⟨#[37, 56, 66]⟩, .string ⟨#[140]⟩, .string ⟨#[37, 56, 67]⟩, .string ⟨#[141]⟩, .string ⟨#[37, 56, 68]⟩, .string ⟨#[142]⟩, .string ⟨#[37, 56, 69]⟩, .string ⟨#[143]⟩, .string ⟨#[37, 56, 70]⟩, .string ⟨#[144]⟩, .string ⟨#[37, 57, 48]⟩, .string ⟨#[145]⟩, .string ⟨#[37, 57, 49]⟩, .string ⟨#[146]⟩, .string ⟨#[37, 57, 50]⟩, .string ⟨#[147]⟩, .string ⟨#[37, 57, 51]⟩, .string ⟨#[148]⟩, .string ⟨#[37, 57, 52]⟩, .string ⟨#[149]⟩, .string ⟨#[37, 57, 53]⟩, .string ⟨#[150]⟩, .string ⟨#[37, 57, 54]⟩, .string ⟨#[151]⟩, .string ⟨#[37, 57, 55]⟩, .string ⟨#[152]⟩, .string ⟨#[37, 57, 56]⟩, .string ⟨#[153]⟩, .string ⟨#[37, 57, 57]⟩, .string ⟨#[154]⟩, .string ⟨#[37, 57, 65]⟩, .string ⟨#[155]⟩, .string ⟨#[37, 57, 66]⟩, .string ⟨#[156]⟩, .string ⟨#[37, 57, 67]⟩, .string ⟨#[157]⟩, .string ⟨#[37, 57, 68]⟩, .string ⟨#[158]⟩, .string ⟨#[37, 57, 69]⟩, .string ⟨#[159]⟩, .string ⟨#[37, 57, 70]⟩, .string ⟨#[160]⟩, .string ⟨#[37, 65, 48]⟩, .string ⟨#[161]⟩, .string ⟨#[37, 65, 49]⟩, .string ⟨#[162]⟩, .string ⟨#[37, 65, 50]⟩, .string ⟨#[163]⟩, .string ⟨#[37, 65, 51]⟩, .string ⟨#[164]⟩, .string ⟨#[37, 65, 52]⟩, .string ⟨#[165]⟩, .string ⟨#[37, 65, 53]⟩, .string ⟨#[166]⟩, .string ⟨#[37, 65, 54]⟩, .string ⟨#[167]⟩, .string ⟨#[37, 65, 55]⟩, .string ⟨#[168]⟩, .string ⟨#[37, 65, 56]⟩, .string ⟨#[169]⟩, .string ⟨#[37, 65, 57]⟩, .string ⟨#[170]⟩, .string ⟨#[37, 65, 65]⟩, .string ⟨#[171]⟩, .string ⟨#[37, 65, 66]⟩, .string ⟨#[172]⟩, .string ⟨#[37, 65, 67]⟩, .string ⟨#[173]⟩, .string ⟨#[37, 65, 68]⟩, .string ⟨#[174]⟩, .string ⟨#[37, 65, 69]⟩, .string ⟨#[175]⟩, .string ⟨#[37, 65, 70]⟩, .string ⟨#[176]⟩, .string ⟨#[37, 66, 48]⟩, .string ⟨#[177]⟩, .string ⟨#[37, 66, 49]⟩, .string ⟨#[178]⟩, .string ⟨#[37, 66, 50]⟩, .string ⟨#[179]⟩, .string ⟨#[37, 66, 51]⟩, .string ⟨#[180]⟩, .string ⟨#[37, 66, 52]⟩, .string ⟨#[181]⟩, .string ⟨#[37, 66, 53]⟩, .string ⟨#[182]⟩, .string ⟨#[37, 66, 54]⟩, .string ⟨#[183]⟩, .string ⟨#[37, 66, 55]⟩, .string ⟨#[184]⟩, .string ⟨#[37, 66, 56]⟩, .string ⟨#[185]⟩, .string ⟨#[37, 66, 57]⟩, .string ⟨#[186]⟩, .string ⟨#[37, 66, 65]⟩, .string ⟨#[187]⟩, .string ⟨#[37, 66, 66]⟩, .string ⟨#[188]⟩, .string ⟨#[37, 66, 67]⟩, .string ⟨#[189]⟩, .string ⟨#[37, 66, 68]⟩, .string ⟨#[190]⟩, .string ⟨#[37, 66, 69]⟩, .string ⟨#[191]⟩, .string ⟨#[37, 66, 70]⟩, .string ⟨#[192]⟩, .string ⟨#[37, 67, 48]⟩, .string ⟨#[193]⟩, .string ⟨#[37, 67, 49]⟩, .string ⟨#[194]⟩, .string ⟨#[37, 67, 50]⟩, .string ⟨#[195]⟩, .string ⟨#[37, 67, 51]⟩, .string ⟨#[196]⟩, .string ⟨#[37, 67, 52]⟩, .string ⟨#[197]⟩, .string ⟨#[37, 67, 53]⟩, .string ⟨#[198]⟩, .string ⟨#[37, 67, 54]⟩, .string ⟨#[199]⟩, .string ⟨#[37, 67, 55]⟩, .string ⟨#[200]⟩, .string ⟨#[37, 67, 56]⟩, .string ⟨#[201]⟩, .string ⟨#[37, 67, 57]⟩, .string ⟨#[202]⟩, .string ⟨#[37, 67, 65]⟩, .string ⟨#[203]⟩, .string ⟨#[37, 67, 66]⟩, .string ⟨#[204]⟩, .string ⟨#[37, 67, 67]⟩, .string ⟨#[205]⟩, .string ⟨#[37, 67, 68]⟩, .string ⟨#[206]⟩, .string ⟨#[37, 67, 69]⟩, .string ⟨#[207]⟩, .string ⟨#[37, 67, 70]⟩, .string ⟨#[208]⟩, .string ⟨#[37, 68, 48]⟩, .string ⟨#[209]⟩, .string ⟨#[37, 68, 49]⟩, .string ⟨#[210]⟩, .string ⟨#[37, 68, 50]⟩, .string ⟨#[211]⟩, .string ⟨#[37, 68, 51]⟩, .string ⟨#[212]⟩, .string ⟨#[37, 68, 52]⟩, .string ⟨#[213]⟩, .string ⟨#[37, 68, 53]⟩, .string ⟨#[214]⟩, .string ⟨#[37, 68, 54]⟩, .string ⟨#[215]⟩, .string ⟨#[37, 68, 55]⟩, .string ⟨#[216]⟩, .string ⟨#[37, 68, 56]⟩, .string ⟨#[217]⟩, .string ⟨#[37, 68, 57]⟩, .string ⟨#[218]⟩, .string ⟨#[37, 68, 65]⟩, .string ⟨#[219]⟩, .string ⟨#[37, 68, 66]⟩, .string ⟨#[220]⟩, .string ⟨#[37, 68, 67]⟩, .string ⟨#[221]⟩, .string ⟨#[37, 68, 68]⟩, .string ⟨#[222]⟩, .string ⟨#[37, 68, 69]⟩, .string ⟨#[223]⟩, .string ⟨#[37, 68, 70]⟩, .string ⟨#[224]⟩, .string ⟨#[37, 69, 48]⟩, .string ⟨#[225]⟩, .string ⟨#[37, 69, 49]⟩, .string ⟨#[226]⟩, .string ⟨#[37, 69, 50]⟩, .string ⟨#[227]⟩, .string ⟨#[37, 69, 51]⟩, .string ⟨#[228]⟩, .string ⟨#[37, 69, 52]⟩, .string ⟨#[229]⟩, .string ⟨#[37, 69, 53]⟩, .string ⟨#[230]⟩, .string ⟨#[37, 69, 54]⟩, .string ⟨#[231]⟩, .string ⟨#[37, 69, 55]⟩, .string ⟨#[232]⟩, .string ⟨#[37, 69, 56]⟩, .string ⟨#[233]⟩, .string ⟨#[37, 69, 57]⟩, .string ⟨#[234]⟩, .string ⟨#[37, 69, 65]⟩, .string ⟨#[235]⟩, .string ⟨#[37, 69, 66]⟩, .string ⟨#[236]⟩, .string ⟨#[37, 69, 67]⟩, .string ⟨#[237]⟩, .string ⟨#[37, 69, 68]⟩, .string ⟨#[238]⟩, .string ⟨#[37, 69, 69]⟩, .string ⟨#[239]⟩, .string ⟨#[37, 69, 70]⟩, .string ⟨#[240]⟩, .string ⟨#[37, 70, 48]⟩, .string ⟨#[241]⟩, .string ⟨#[37, 70, 49]⟩, .string ⟨#[242]⟩, .string ⟨#[37, 70, 50]⟩, .string ⟨#[243]⟩, .string ⟨#[37, 70, 51]⟩, .string ⟨#[244]⟩, .string ⟨#[37, 70, 52]⟩, .string ⟨#[245]⟩, .string ⟨#[37, 70, 53]⟩, .string ⟨#[246]⟩, .string ⟨#[37, 70, 54]⟩, .string ⟨#[247]⟩, .string ⟨#[37, 70, 55]⟩, .string ⟨#[248]⟩, .string ⟨#[37, 70, 56]⟩, .string ⟨#[249]⟩, .string ⟨#[37, 70, 57]⟩, .string ⟨#[250]⟩, .string ⟨#[37, 70, 65]⟩, .string ⟨#[251]⟩, .string ⟨#[37, 70, 66]⟩, .string ⟨#[252]⟩, .string ⟨#[37, 70, 67]⟩, .string ⟨#[253]⟩, .string ⟨#[37, 70, 68]⟩, .string ⟨#[254]⟩, .string ⟨#[37, 70, 69]⟩, .string ⟨#[255]⟩, .string ⟨#[37, 70, 70]⟩]
def linkFirst : List Nat := [34, 38, 60, 62, 92, 32, 96, 91, 93, 94, 123, 125, 0, 1, 2, 3, 4, 5, 6, 7, 8, 11, 12, 14, 15, 16, 17, 18, 19, 20, 21, 22, 23, 24, 25, 26, 27, 28, 29, 30, 31, 127, 128, 129, 130, 131, 132, 133, 134, 135, 136, 137, 138, 139, 140, 141, 142, 143, 144, 145, 146, 147, 148, 149, 150, 151, 152, 153, 154, 155, 156, 157, 158, 159, 160, 161, 162, 163, 164, 165, 166, 167, 168, 169, 170, 171, 172, 173, 174, 175, 176, 177, 178, 179, 180, 181, 182, 183, 184, 185, 186, 187, 188, 189, 190, 191, 192, 193, 194, 195, 196, 197, 198, 199, 200, 201, 202, 203, 204, 205, 206, 207, 208, 209, 210, 211, 212, 213, 214, 215, 216, 217, 218, 219, 220, 221, 222, 223, 224, 225, 226, 227, 228, 229, 230, 231, 232, 233, 234, 235, 236, 237, 238, 239, 240, 241, 242, 243, 244, 245, 246, 247, 248, 249, 250, 251, 252, 253, 254, 255]
theorem infoStr : (Tryz.prog.info? 9).map (fun i => (i.zero, i.size, i.bytes)) = some (some (.string ⟨#[]⟩), 1, 16) := by kernel_rfl
set_option maxRecDepth 100000 in
set_option maxHeartbeats 4000000 in
theorem htmlLinkEscaper_any (w : World) : Calls Tryz.prog 264 #[] w fun e w' => ∃ n, e = .returned (.slice (some ⟨n, 0, none⟩) 340 340) ∧ w.heap.size ≤ n ∧ Blk w' n 9 linkL.toArray ∧ Below w.heap.size w w' := by
  obtain ⟨ie, hie, hz, hs1, hs2⟩ := info_parts infoStr
  go_enter Tryz.func264, Tryz.ntmps264
  go_wp2_with (refine wpList_buildSlice rfl 346 9 340 _ rfl linkL.toArray ie (.string ⟨#[]⟩) Tryz.underlying346 hie hz (by rw [hs1]; decide) (by rw [hs1]; decide) (by rw [hs1]; kernel_rfl) ?_)
  go_ret
  exact ⟨_, rfl, Nat.le_refl _, Blk.new _ _ _, (Below.refl _ _).alloc (Nat.le_refl _) _⟩
end Go.Proofs.YtmmijmhdbpldpaaGreatDoor
/- A link: its destination escaped, where nothing in it wants escaping; no HTML. -/


namespace Go.Proofs.YtmmijmhdbpldpaaGreatDoor
open Go.RowKit
def evens : List Value → List Value
  | a :: _ :: t => a :: evens t
  | _ => []
theorem evens_get : ∀ (l : List Value) (j : Nat), l.length % 2 = 0 → (evens l)[j]? = l[2 * j]?
  | [], j, _ => by simp [evens]
  | [a], j, h => by simp at h
  | a :: b :: t, 0, _ => rfl
  | a :: b :: t, j + 1, h => by
    rw [evens, List.getElem?_cons_succ, evens_get t j (by simp only [List.length_cons] at h; omega), show 2 * (j + 1) = 2 * j + 1 + 1 from by omega]
    rfl
theorem link_evens : evens linkL = linkFirst.map (fun c => Value.string ⟨#[UInt8.ofNat c]⟩) := by kernel_rfl
theorem link_len : linkL.length = 340 := by kernel_rfl
/-- A byte that stays as it is in a destination. -/
def Plainly (z : Int) : Prop := ∀ c ∈ linkFirst, z ≠ (((UInt8.ofNat c).toNat : Nat) : Int)
theorem link_cell (q : Nat) (h : q < 340) (h2 : q % 2 = 0) : ∃ c : UInt8, linkL[q]? = some (.string ⟨#[c]⟩) ∧ ∀ z : Int, Plainly z → z ≠ (c.toNat : Int) := by
  obtain ⟨j, rfl⟩ : ∃ j, q = 2 * j := ⟨q / 2, by omega⟩
  have e := evens_get linkL j (by rw [link_len])
  rw [link_evens, List.getElem?_map] at e
  have hj : 2 * j < linkL.length := by rw [link_len]; exact h
  rw [List.getElem?_eq_getElem hj] at e ⊢
  cases hf : linkFirst[j]? with
  | none => rw [hf] at e; cases e
  | some c =>
    rw [hf] at e
    simp only [Option.map_some, Option.some.injEq] at e
    refine ⟨UInt8.ofNat c, by rw [e], fun z hz => hz c (List.mem_of_getElem? hf)⟩
def LinkR (B b : Nat) (bs : List UInt8) (s : ByteArray) (w : World) (t6 : Value) (wr : World) : Prop :=
  ∃ i : Nat, i ≤ s.size ∧ t6 = .int .i64 i ∧ IsBuf B b (bs ++ s.data.toList.take i) wr ∧ Below B w wr ∧ Kept b w wr
set_option maxRecDepth 20000 in
set_option maxHeartbeats 4000000 in
theorem link_write (B b n : Nat) (bs : List UInt8) (s : ByteArray) (w : World) (hn : Blk w n 9 linkL.toArray) (hbuf : IsBuf B b bs w) (hB : B ≤ w.heap.size) (hs : s.size ≤ 100000) (hl : bs.length ≤ 1000000) (hq : ∀ i, i < s.size → Plainly (bt s i)) :
    Calls Tryz.prog 258 #[.slice (some ⟨n, 0, none⟩) 340 340, .pointer (some ⟨b, 0, none⟩), .string s] w (PrintP B b bs s.data.toList w) := by
  have hb := get_bt s
  have HL := hid (Lib.size_eq s)
  have HBUF := hid hbuf
  have hnb : n ≠ b := by
    obtain ⟨cs, hcs⟩ := hbuf.blk
    exact Blk.ne_ hn hcs (by decide)
  have HN := hid hn
  have HQ := hid hq
  clear hbuf hn hq
  go_enter Tryz.func258, Tryz.ntmps258
  go_wp2_with fail
  go_step3
  go_wp2_with fail
  go_step3
  go_wp2_with fail
  go_loopw [6] (fun t6 wr => LinkR B b bs s w t6 wr) (fun t6 _ => s.size - (intOf t6).toNat)
  case atStart => exact ⟨0, Nat.zero_le _, rfl, by simpa using HBUF.out, Below.refl _ _, Lib.OthersKept.refl _ _ _⟩
  case round =>
    obtain ⟨i, hi, rfl, hbf, hbel, hk⟩ := hrel
    by_cases hlt : i < s.size
    · have hll : i < s.data.toList.length := by rw [← HL.out]; exact hlt
      have HET := hid (show s.data.toList.take (i + 1) = s.data.toList.take i ++ [s.data.toList[i]'hll] from by rw [List.take_add_one, List.getElem?_eq_getElem hll]; rfl)
      have hbt : bt s i = ((s.data.toList[i]'hll).toNat : Int) := by unfold bt; rw [dif_pos hlt]; rfl
      have hel : (s.data.toList.take i).length = i := by rw [List.length_take]; omega
      have hQi := HQ.out i hlt
      generalize s.data.toList.take i = ls at HET hel hbf ⊢
      generalize s.data.toList[i]'hll = c at HET hbt
      have HC := hid (Blk.kept HN.out hk hnb (by decide))
      have hBw : B ≤ wr.heap.size := Nat.le_trans hB hbel.size
      have HBF := hid hbf
      have HBL := hid hbel
      have HK := hid hk
      have HBT := hid hbt
      have HQI := hid hQi
      clear hbf hbel hk hbt hQi
      go_wp2_with fail
      go_loopw [7] (fun t7 wx => ∃ (q k : Nat), t7 = .int .i64 q ∧ q ≤ 340 ∧ q % 2 = 0 ∧ wx = wr.drewN k) (fun t7 _ => 342 - (intOf t7).toNat)
      case atStart => exact ⟨0, 0, rfl, by omega, rfl, rfl⟩
      case round =>
        obtain ⟨q, k, rfl, hq1, hq2, rfl⟩ := hrel
        by_cases hlq : q < 340
        · obtain ⟨c1, hc1, hc2⟩ := link_cell q hlq hq2
          have hcell : wr.cell? ⟨n, q, none⟩ = some (.string ⟨#[c1]⟩) := HC.out.at_ q (by simpa using hc1)
          have hne : (bt s i == (c1.toNat : Int)) = false := by simpa using hc2 _ HQI.out
          have e1 : ∀ h, ((((ByteArray.mk #[c1])[0]'h).toNat : Nat) : Int) = c1.toNat := fun _ => rfl
          have hz1 : (ByteArray.mk #[c1]).size = 1 := rfl
          clear hc1 hc2
          go_wp2_with fail
          go_quiet (fail)
          go_wp2_with fail
          go_roundw
          case rel => exact ⟨q + 2, k + nq, by go_num, by omega, by omega, rfl⟩
          case measure => simp [intOf]; omega
        · obtain rfl : q = 340 := by omega
          have HWB := hid (write_byte B b (bs ++ ls) c (wr.drewN k) HBF.out hBw (by rw [List.length_append]; omega))
          rw [← HBT.out] at HWB
          go_wp2_with fail
          refine HWB.out.mono ?_
          rintro e w3 ⟨rfl, h3, b3, k3⟩
          have HB3 := hid h3
          have HL3 := hid b3
          have HK3 := hid k3
          clear h3 b3 k3
          go_wp2_with fail
          go_roundw
          case rel => exact ⟨i + 1, by omega, by go_num, by rw [HET.out, ← List.append_assoc]; exact HB3.out, (below_drewN HBL.out _).trans HL3.out, Lib.OthersKept.trans HK.out (show Lib.OthersKept _ _ wr w3 from HK3.out)⟩
          case measure => simp [intOf]; omega
    · obtain rfl : i = s.size := by omega
      have ht : s.data.toList.take s.size = s.data.toList := List.take_of_length_le (by rw [HL.out]; exact Nat.le_refl _)
      rw [ht] at hbf
      have HBF := hid hbf
      have HBL := hid hbel
      have HK := hid hk
      clear ht hbf hbel hk
      go_wp2_with fail
      all_goals (try rw [Exit.noGoto_normal])
      go_end0
      exact ⟨rfl, HBF.out, HBL.out, HK.out⟩
set_option maxRecDepth 20000 in
set_option maxHeartbeats 800000 in
theorem linkReplace_any (n : Nat) (s : ByteArray) (w : World) (hn : Blk w n 9 linkL.toArray) (hs : s.size ≤ 100000) (hq : ∀ i, i < s.size → Plainly (bt s i)) :
    Calls Tryz.prog 265 #[.slice (some ⟨n, 0, none⟩) 340 340, .string s] w fun e w' => e = .returned (.string s) ∧ Below w.heap.size w w' := by
  have hw := hid (link_write w.heap.size w.heap.size n [] s (w.alloc (.cells #[.slice none 0 0, .int .i64 0, .int .i8 0] 73)) (Blk.alloc hn _) (Lib.fresh_isBuffer _ _ _) (by simp) hs (by simp) hq)
  clear hn hq
  go_enter Tryz.func265, Tryz.ntmps265
  go_wp2_with fail
  refine hw.out.mono ?_
  rintro e w1 ⟨rfl, hb1, hbl1, _⟩
  have HB1 := hid hb1
  have HBL1 := hid hbl1
  clear hb1 hbl1
  go_wp2_with fail
  refine (buf_str w.heap.size w.heap.size _ _ HB1.out).mono ?_
  rintro e w2 ⟨rfl, n2, rfl⟩
  go_wp2_with fail
  go_ret
  exact ⟨rfl, below_drewN (((Below.refl _ _).alloc (Nat.le_refl _) _).trans HBL1.out) n2⟩
end Go.Proofs.YtmmijmhdbpldpaaGreatDoor
/- test -/

namespace Go.Proofs.YtmmijmhdbpldpaaGreatDoor
open Go.RowKit
/-- A link whose text is one plain text. -/
def IsLink1 (w : World) (b rb pb c : Nat) (t u : ByteArray) : Prop :=
  Blk w b 144 #[.slice (some ⟨rb, 0, none⟩) 1 c, .string u, .string ⟨#[]⟩, .int .u8 0, .bool false] ∧ Blk w rb 132 #[.iface 156 (.pointer (some ⟨pb, 0, none⟩))] ∧ Blk w pb 137 #[.string t]
theorem IsLink1.mod {w w' : World} {b rb pb c : Nat} {t u : ByteArray} {S : Nat → Prop} (h : IsLink1 w b rb pb c t u) (hm : Mod S w w') (h1 : ¬ S b) (h2 : ¬ S rb) (h3 : ¬ S pb) : IsLink1 w' b rb pb c t u :=
  ⟨h.1.mod hm h1, h.2.1.mod hm h2, h.2.2.mod hm h3⟩
theorem IsLink1.kept {w w' : World} {b rb pb c q : Nat} {t u : ByteArray} (h : IsLink1 w b rb pb c t u) (hk : Kept q w w') (h1 : b ≠ q) (h2 : rb ≠ q) (h3 : pb ≠ q) : IsLink1 w' b rb pb c t u :=
  ⟨h.1.kept hk h1 (by decide), h.2.1.kept hk h2 (by decide), h.2.2.kept hk h3 (by decide)⟩
def linkOut (u t : List UInt8) : List UInt8 := [60, 97, 32, 104, 114, 101, 102, 61, 34] ++ u ++ [34] ++ [62] ++ esc t ++ [60, 47, 97, 62]
theorem link_bytes (u : ByteArray) : (ByteArray.mk #[60, 97, 32, 104, 114, 101, 102, 61, 34] ++ u) ++ ByteArray.mk #[34] = ⟨([60, 97, 32, 104, 114, 101, 102, 61, 34] ++ u.data.toList ++ [34]).toArray⟩ := by
  have e : u = ⟨u.data.toList.toArray⟩ := ByteArray.ext Array.toArray_toList.symm
  rw [show ByteArray.mk #[60, 97, 32, 104, 114, 101, 102, 61, 34] = ⟨[60, 97, 32, 104, 114, 101, 102, 61, 34].toArray⟩ from rfl, show ByteArray.mk #[34] = ⟨[34].toArray⟩ from rfl]
  rw [e]
  simp only [cat_lists]
set_option maxRecDepth 20000 in
set_option maxHeartbeats 800000 in
theorem linkHTML_any (B q b rb pb c : Nat) (bs : List UInt8) (t u : ByteArray) (w : World) (h : IsLink1 w b rb pb c t u) (hbq : b ≠ q) (hrq : rb ≠ q) (hpq : pb ≠ q) (hbuf : IsBuf B q bs w) (hB : B ≤ w.heap.size) (ht : t.size ≤ 10000) (hu : u.size ≤ 10000) (hl : bs.length + u.size + 15 ≤ 1000000) (hq : ∀ i, i < u.size → Plainly (bt u i)) :
    Calls Tryz.prog 261 #[.pointer (some ⟨b, 0, none⟩), .pointer (some ⟨q, 0, none⟩)] w (PrintP B q bs (linkOut u.data.toList t.data.toList) w) := by
  have c1 := h.1.at_ 1 (v := .string u) rfl
  have H := hid h
  have HQ := hid hq
  clear hq
  have HBUF := hid hbuf
  have hul : u.data.toList.length = u.size := (Lib.size_eq u).symm
  have htl : t.data.toList.length = t.size := (Lib.size_eq t).symm
  have hel : (esc t.data.toList).length ≤ 60000 := Nat.le_trans (esc_len _) (by omega)
  have hc1 : ¬ 9223372036854775807 < 9 + u.size := by omega
  have hc2 : ¬ 9223372036854775807 < 9 + u.size + 1 := by omega
  have HSB := hid (link_bytes u)
  have HSZ := hid (show (((ByteArray.mk #[60, 97, 32, 104, 114, 101, 102, 61, 34] ++ u) ++ ByteArray.mk #[34]) : ByteArray).size + bs.length ≤ 2000000 from by rw [ByteArray.size_append, ByteArray.size_append]; show 9 + u.size + 1 + bs.length ≤ 2000000; omega)
  have hm : ∀ W, (method 475 156 (.pointer (some ⟨pb, 0, none⟩)) "PrintHTML").run Tryz.prog W = .ok (254, .pointer (some ⟨pb, 0, none⟩)) W := fun W => by kernel_rfl
  have he := Go.Proofs.enters_of Tryz.func254 (by kernel_rfl) rfl
  clear h hbuf
  go_enter Tryz.func261, Tryz.ntmps261
  go_wp2_with fail
  go_region_law (first
    | (go_simp; go_at_call 264; refine (htmlLinkEscaper_any _).mono ?_; rintro e w4 ⟨n4, rfl, hn4, hp4, hb4⟩; have HP4 := hid hp4; clear hp4; have c1' := Blk.at_ (Blk.mod (w := World.drew w) (S := fun _ => False) H.out.1 (Mod.below' hb4) (fun x => x)) 1 (v := .string u) rfl)
    | (go_simp; go_at_call 265; refine (linkReplace_any n4 u _ HP4.out (by omega) HQ.out).mono ?_; rintro e w5 ⟨rfl, hb5⟩)
    | (go_simp; go_at_call 245; refine (write_str B q bs _ w5 (IsBuf.old (IsBuf.old (w := World.drew w) HBUF.out hb4) hb5) (Nat.le_trans (Nat.le_trans hB hb4.size) hb5.size) (by have := HSZ.out; omega)).mono ?_; rintro e w6 ⟨rfl, hi6, hb6, hk6⟩))
  all_goals
    rw [HSB.out] at hi6
    have hk06 : Kept q w w6 := (show Kept q (World.drew w) w6 from Lib.OthersKept.trans (Lib.OthersKept.below (Lib.OthersKept.below (Lib.OthersKept.refl _ _ (World.drew w)) hb4) hb5) hk6)
    have hb06 : Below B w w6 := ((below_drewN (Below.refl B w) 1).trans (hb4.mono hB)).trans ((hb5.mono (Nat.le_trans hB hb4.size)).trans hb6)
    have h6 := H.out.kept hk06 hbq hrq hpq
    have HK6 := hid hk06
    have HB6 := hid hb06
    have HI6 := hid hi6
    have c0 := h6.1.at_ 0 (v := .slice (some ⟨rb, 0, none⟩) 1 c) rfl
    have c2 := h6.1.at_ 2 (v := .string ⟨#[]⟩) rfl
    have H6 := hid h6
    clear c1' hb4 hb5 hb6 hk6 hk06 hb06 hi6 HP4 hn4 c1 h6 H HBUF HSB HSZ
    go_wp2_with fail
    refine (write_str B q _ ⟨#[62]⟩ w6 HI6.out (Nat.le_trans hB HB6.out.size) (by have : (ByteArray.mk #[62]).size = 1 := rfl; simp; omega)).mono ?_
    rintro e w7 ⟨rfl, hi7, hb7, hk7⟩
    have h7 := H6.out.kept hk7 hbq hrq hpq
    have HK7 := hid (Lib.OthersKept.trans HK6.out hk7)
    have HB7 := hid (HB6.out.trans hb7)
    have HI7 := hid hi7
    have H7 := hid h7
    clear c0 c2
    have c0 := h7.1.at_ 0 (v := .slice (some ⟨rb, 0, none⟩) 1 c) rfl
    have d0 := h7.2.1.at_ 0 (v := .iface 156 (.pointer (some ⟨pb, 0, none⟩))) rfl
    clear h7 hi7 hb7 hk7 HK6 HB6 HI6 H6
    go_wp2_with fail
    refine wp_loop_rounds 2 ?_
    rw [rounds_succ]
    go_wp2_with fail
    refine (plainHTML_any B q pb _ t w7 H7.out.2.2 HI7.out (Nat.le_trans hB HB7.out.size) (by omega) (by simp; omega)).mono ?_
    rintro e w8 ⟨rfl, hi8, hb8, hk8⟩
    have HK8 := hid (Lib.OthersKept.trans HK7.out hk8)
    have HB8 := hid (HB7.out.trans hb8)
    have HI8 := hid hi8
    clear hi8 hb8 hk8 HK7 HB7 HI7 H7
    go_wp2_with fail
    rw [rounds_succ]
    go_wp2_with fail
    refine (write_str B q _ ⟨#[60, 47, 97, 62]⟩ w8 HI8.out (Nat.le_trans hB HB8.out.size) (by have : (ByteArray.mk #[60, 47, 97, 62]).size = 4 := rfl; simp; omega)).mono ?_
    rintro e w9 ⟨rfl, hi9, hb9, hk9⟩
    have HK9 := hid (Lib.OthersKept.trans HK8.out hk9)
    have HB9 := hid (HB8.out.trans hb9)
    have HI9 := hid hi9
    clear hi9 hb9 hk9
    go_wp2_with fail
    go_end0
    refine ⟨rfl, ?_, HB9.out, HK9.out⟩
    have := HI9.out
    unfold linkOut
    simpa [List.append_assoc] using this
@[reducible] def plV (b : Nat) : Value := .iface 156 (.pointer (some ⟨b, 0, none⟩))
@[reducible] def lkV (b : Nat) : Value := .iface 140 (.pointer (some ⟨b, 0, none⟩))
theorem link_item {B : Nat} {w : World} {b rb pb c : Nat} {t u : ByteArray} (h : IsLink1 w b rb pb c t u) (h1 : B ≤ b) (h2 : B ≤ rb) (h3 : B ≤ pb) (ht : t.size ≤ 10000) (hu : u.size ≤ 10000) (hq : ∀ i, i < u.size → Plainly (bt u i)) : ItemS B w (lkV b) (linkOut u.data.toList t.data.toList) := by
  refine ⟨fun k => k = b ∨ k = rb ∨ k = pb, fun k hk => ?_, fun w' S hm hn q bs hq' => ?_⟩
  · rcases hk with rfl | rfl | rfl
    · exact ⟨h1, _, _, h.1, by decide, by decide⟩
    · exact ⟨h2, _, _, h.2.1, by decide, by decide⟩
    · exact ⟨h3, _, _, h.2.2, by decide, by decide⟩
  · have h' := h.mod hm (hn b (.inl rfl)) (hn rb (.inr (.inl rfl))) (hn pb (.inr (.inr rfl)))
    refine ⟨_, _, 261, .pointer (some ⟨b, 0, none⟩), rfl, fun W => by kernel_rfl, Go.Proofs.enters_of Tryz.func261 (by kernel_rfl) rfl, fun B' W hk hbf hB hlen => ?_⟩
    have l1 := h'.1.lt
    have l2 := h'.2.1.lt
    have l3 := h'.2.2.lt
    have e1 : u.data.toList.length = u.size := (Lib.size_eq u).symm
    refine linkHTML_any B' q b rb pb c bs t u W (h'.kept hk (by omega) (by omega) (by omega)) (by omega) (by omega) (by omega) hbf hB ht hu ?_ hq
    unfold linkOut at hlen
    simp only [List.length_append, List.length_cons, List.length_nil] at hlen
    omega
/-- A plain text, as an item. -/
theorem plain_item {B : Nat} {w : World} {b : Nat} {t : ByteArray} (h : Blk w b 137 #[.string t]) (h1 : B ≤ b) (ht : t.size ≤ 100000) : ItemS B w (plV b) (esc t.data.toList) := by
  have e : t = ⟨t.data.toList.toArray⟩ := ByteArray.ext Array.toArray_toList.symm
  refine ItemS.of (k := plainK t.data.toList) ⟨b, rfl, ?_, h1⟩ (plainK_ok _) (plain_kprints _ (by rw [← Lib.size_eq]; exact ht))
  show Blk w b 137 #[.string ⟨t.data.toList.toArray⟩]
  rw [← e]
  exact h
end Go.Proofs.YtmmijmhdbpldpaaGreatDoor
/- The brackets of links: what opens and what closes one. -/



namespace Go.Proofs.YtmmijmhdbpldpaaGreatDoor
open Go.RowKit
/-- A sign that may open a link or an image: its text, and where what stands in it begins. -/
@[reducible] def openK (l : List UInt8) (j : Nat) : Kind := ⟨134, 139, [lineV l, .int .i64 j]⟩
theorem linkOpen_any (p : Value) (s : ByteArray) (i : Nat) (w : World) (hi : i < s.size) (hs : s.size ≤ 100000) :
    Calls Tryz.prog 69 #[p, .string s, .int .i64 i] w fun e w' => ∃ b, e = .returned (.tuple #[.iface 134 (.pointer (some ⟨b, 0, none⟩)), .int .i64 i, .int .i64 ((i + 1 : Nat) : Int), .bool true]) ∧ w.heap.size ≤ b ∧ Blk w' b 139 #[.string (s.extract i (i + 1)), .int .i64 ((i + 1 : Nat) : Int)] ∧ Below w.heap.size w w' := by
  have e1 : ((i + 1 : Nat) : Int) = (i : Int) + 1 := by omega
  rw [e1]
  clear e1
  go_enter Tryz.func69, Tryz.ntmps69
  go_wp2_with fail
  refine bodyPost_ret (by simp [results, Tryz.results69, go_sem]; try rfl) rfl ?_
  exact ⟨w.heap.size, rfl, Nat.le_refl _, Blk.new _ _ _, (Below.refl _ _).alloc (Nat.le_refl _) _⟩
theorem imageOpen_any (p : Value) (s : ByteArray) (i : Nat) (w : World) (hi : i + 1 < s.size) (hs : s.size ≤ 100000) (h : bt s (i + 1) = 91) :
    Calls Tryz.prog 70 #[p, .string s, .int .i64 i] w fun e w' => ∃ b, e = .returned (.tuple #[.iface 134 (.pointer (some ⟨b, 0, none⟩)), .int .i64 i, .int .i64 ((i + 2 : Nat) : Int), .bool true]) ∧ w.heap.size ≤ b ∧ Blk w' b 139 #[.string (s.extract i (i + 2)), .int .i64 ((i + 2 : Nat) : Int)] ∧ Below w.heap.size w w' := by
  have hb := get_bt s
  have e91 : (bt s (i + 1) == 91) = true := by simpa using h
  have e1 : ((i + 2 : Nat) : Int) = (i : Int) + 2 := by omega
  rw [e1]
  clear e1 h
  go_enter Tryz.func70, Tryz.ntmps70
  go_wp2_with fail
  refine bodyPost_ret (by simp [results, Tryz.results70, go_sem]; try rfl) rfl ?_
  exact ⟨w.heap.size, rfl, Nat.le_refl _, Blk.new _ _ _, (Below.refl _ _).alloc (Nat.le_refl _) _⟩
set_option maxRecDepth 20000 in
set_option maxHeartbeats 1600000 in
theorem linkClose_yes (p q : Value) (s : ByteArray) (i k : Nat) (w : World) (hs : s.size ≤ 100000) (h40 : bt s (i + 1) = 40) (hik : i + 2 < k) (hk : k < s.size) (hc : ∀ m, i + 2 ≤ m → m < k → DC (bt s m)) (h41 : bt s k = 41) (h1 : 92 ∉ (s.extract (i + 2) k).data.toList) (h2 : 38 ∉ (s.extract (i + 2) k).data.toList) :
    Calls Tryz.prog 79 #[p, .string s, .int .i64 i, q] w fun e w' => ∃ b, e = .returned (.tuple #[.pointer (some ⟨b, 0, none⟩), .int .i64 ((k + 1 : Nat) : Int), .bool true]) ∧ w.heap.size ≤ b ∧ Blk w' b 144 #[.slice none 0 0, .string (s.extract (i + 2) k), .string ⟨#[]⟩, .int .u8 0, .bool false] ∧ Below w.heap.size w w' := by
  have hb := get_bt s
  have hd := hc (i + 2) (Nat.le_refl _) hik
  have HS := hid (skipSpace_no s (i + 2) w (by omega) (by omega) (by rcases hd with e | e | e | e <;> rw [e] <;> decide))
  have HD := hid (linkDest_any s (i + 2) k w hs hik hk hc h41 h1 h2)
  have HK := hid (skipSpace_no s k w hk (by omega) (by rw [h41]; decide))
  rw [show ((i + 2 : Nat) : Int) = (i : Int) + 2 from by omega] at HS HD
  have e40 : (bt s (i + 1) == 40) = true := by simpa using h40
  have d41 : (bt s (i + 2) == 41) = false := hd.eqs.2.2.1
  have d41' : (bt s (i + 2) != 41) = true := by simp [bne, d41]
  have k41 : (bt s k == 41) = true := by simpa using h41
  have k41' : (bt s k != 41) = false := by simp [bne, k41]
  clear hd hc h40 h41 h1 h2
  go_enter Tryz.func79, Tryz.ntmps79
  go_wp2_with fail
  refine HS.out.mono ?_
  rintro e w1 ⟨rfl, rfl⟩
  go_wp2_with fail
  refine HD.out.mono ?_
  rintro e w1 ⟨rfl, rfl⟩
  go_wp2_with fail
  refine HK.out.mono ?_
  rintro e w1 ⟨rfl, rfl⟩
  go_wp2_with fail
  refine bodyPost_ret (by simp [results, Tryz.results79, go_sem]; try rfl) rfl ?_
  exact ⟨w.heap.size, by rw [show ((k + 1 : Nat) : Int) = (k : Int) + 1 from by omega], Nat.le_refl _, Blk.new _ _ _, (Below.refl _ _).alloc (Nat.le_refl _) _⟩
set_option maxHeartbeats 400000 in
theorem hasPre_no0 (s p : ByteArray) (w : World) (_ : s.size ≤ 1000000) (hq : 0 < p.size) (hp : p.size ≤ s.size) (h : bt s 0 ≠ bt p 0) :
    Calls Tryz.prog 31 #[.string s, .string p] w fun e w' => e = .returned (.bool false) ∧ w = w' := by
  have hE : ((s.extract 0 p.size).toList == p.toList) = false := by
    rw [beq_eq_false_iff_ne]
    intro he
    apply h
    have h1 : s.extract 0 p.size = p := by
      apply ByteArray.ext
      apply Array.ext'
      rw [Lib.toList_data, Lib.toList_data] at he
      exact he
    have h2 : bt (s.extract 0 p.size) 0 = bt s 0 := by
      unfold bt
      rw [dif_pos (by simp; omega), dif_pos (by omega), ByteArray.getElem_extract]
    rw [← h2, h1]
  go_enter Tryz.func31, Tryz.ntmps31
  go_wp2
  go_ret
  exact ⟨rfl, rfl⟩
set_option maxRecDepth 20000 in
set_option maxHeartbeats 1600000 in
theorem linkClose_no (g ob : Nat) (r : PSr) (s t : ByteArray) (i j : Nat) (w : World) (hps : IsPS w g r) (hln : r.links = none) (hob : Blk w ob 139 #[.string t, .int .i64 j]) (hs : s.size ≤ 100000) (hj : j ≤ i) (hi : i + 3 ≤ s.size) (h93 : bt s (i + 1) = 93)
    (hno : ∀ W, Calls Tryz.prog 118 #[.string (s.extract j i)] W fun e w' => ∃ u, e = .returned (.string u) ∧ Below W.heap.size W w') :
    Calls Tryz.prog 79 #[.pointer (some ⟨g, 0, none⟩), .string s, .int .i64 i, .pointer (some ⟨ob, 0, none⟩)] w fun e w' => e = .returned (.tuple #[.pointer none, .int .i64 0, .bool false]) ∧ Below w.heap.size w w' := by
  have hb := get_bt s
  have hez : (s.extract (i + 1) s.size).size = s.size - (i + 1) := by rw [ByteArray.size_extract]; omega
  have hpx : bt (s.extract (i + 1) s.size) 0 ≠ bt ⟨#[91, 93]⟩ 0 := by
    have e : s = ⟨s.data.toList.toArray⟩ := ByteArray.ext Array.toArray_toList.symm
    have e3 : bt s (i + 1) = bt ⟨s.data.toList.toArray⟩ (i + 1) := by rw [← e]
    have e4 : bt (s.extract (i + 1) s.size) 0 = bt s (i + 1) := by
      rw [e3, extract_mk, bt_list, bt_list, List.getElem?_drop, List.getElem?_take, if_pos (by omega), Nat.add_zero]
    rw [e4, h93]
    decide
  have HX := hid (hasPre_no0 (s.extract (i + 1) s.size) ⟨#[91, 93]⟩ w (by omega) (by decide) (by rw [hez]; show 2 ≤ _; omega) hpx)
  have e40 : (bt s (i + 1) == 40) = false := by rw [h93]; rfl
  have e91 : (bt s (i + 1) == 91) = false := by rw [h93]; rfl
  have c2 := hps.c2
  rw [hln] at c2
  have o1 := hob.at_ 1 (v := .int .i64 j) rfl
  have hlk : ∀ (k : ByteArray) (W : World), (Instr.lookup 86 (.map none) (.string k) true).run Tryz.prog W = .ok (.tuple #[.pointer none, .bool false]) W := fun _ _ => rfl
  have HPS := hid hps
  have HOB := hid hob
  have HNO := hid hno
  have HLN := hid hln
  have hi' : i ≤ s.size := by omega
  clear hps hob hno hln h93 hpx
  go_enter Tryz.func79, Tryz.ntmps79
  go_wp2_with fail
  refine HX.out.mono ?_
  rintro e w1 ⟨rfl, rfl⟩
  go_wp2_with fail
  go_region_law (first
    | (go_simp; go_at_call 118; refine (HNO.out _).mono ?_; rintro e w4 ⟨u, rfl, hb4⟩; have c2' := IsPS.c2 (IsPS.below (w := World.drew w) HPS.out hb4); rw [HLN.out] at c2'))
  all_goals clear c2 c2' o1 HX e40 e91 hb
  all_goals go_wp2
  all_goals refine bodyPost_ret (by simp [results, Tryz.results79, go_sem]; try rfl) rfl ?_
  all_goals exact ⟨rfl, (below_drewN (Below.refl w.heap.size w) 1).trans hb4⟩
end Go.Proofs.YtmmijmhdbpldpaaGreatDoor
