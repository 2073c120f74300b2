/- The unescaper of Markdown: it ends with some text. -/
import Derived.Test.YtmcjhcfhglfmlaaGreatDoorBld0
import Derived.Test.YtmcjhcfhglfmlaaGreatDoorHTML
import Derived.Test.YtmcjhcfhglfmlaaGreatDoorEsc
namespace Go.Proofs.YtmcjhcfhglfmlaaGreatDoor
open Go.RowKit
/-- The names of characters that the package knows. -/
def entC : Array Value := #[.string ⟨#[38, 97, 109, 112, 59]⟩, .string ⟨#[38]⟩, .string ⟨#[38, 97, 112, 111, 115, 59]⟩, .string ⟨#[39]⟩, .string ⟨#[38, 99, 111, 112, 121, 59]⟩, .string ⟨#[194, 169]⟩, .string ⟨#[38, 102, 114, 97, 99, 51, 52, 59]⟩, .string ⟨#[194, 190]⟩, .string ⟨#[38, 103, 116, 59]⟩, .string ⟨#[62]⟩, .string ⟨#[38, 104, 101, 108, 108, 105, 112, 59]⟩, .string ⟨#[226, 128, 166]⟩, .string ⟨#[38, 108, 116, 59]⟩, .string ⟨#[60]⟩, .string ⟨#[38, 109, 100, 97, 115, 104, 59]⟩, .string ⟨#[226, 128, 148]⟩, .string ⟨#[38, 110, 98, 115, 112, 59]⟩, .string ⟨#[194, 160]⟩, .string ⟨#[38, 110, 100, 97, 115, 104, 59]⟩, .string ⟨#[226, 128, 147]⟩, .string ⟨#[38, 113, 117, 111, 116, 59]⟩, .string ⟨#[34]⟩, .string ⟨#[38, 114, 101, 103, 59]⟩, .string ⟨#[194, 174]⟩]
def HasEnt (w : World) : Prop := Blk w 1 269 entC
theorem ent_at (i : Nat) (hi : i < 12) : ∃ a b : ByteArray, entC[2 * i]? = some (.string a) ∧ entC[2 * i + 1]? = some (.string b) ∧ b.size ≤ 8 ∧ (96 : UInt8) ∉ a.data.toList ∧ (96 : UInt8) ∉ b.data.toList := by
  have : i = 0 ∨ i = 1 ∨ i = 2 ∨ i = 3 ∨ i = 4 ∨ i = 5 ∨ i = 6 ∨ i = 7 ∨ i = 8 ∨ i = 9 ∨ i = 10 ∨ i = 11 := by omega
  rcases this with rfl | rfl | rfl | rfl | rfl | rfl | rfl | rfl | rfl | rfl | rfl | rfl <;> exact ⟨_, _, rfl, rfl, by decide, by decide, by decide⟩
def EntP (name : ByteArray) (w : World) (e : Ending) (w' : World) : Prop := w' = w ∧ ∃ (r : ByteArray) (ok : Bool), r.size ≤ 8 ∧ (ok = true → (96 : UInt8) ∉ r.data.toList ∧ (96 : UInt8) ∉ name.data.toList) ∧ e = .returned (.tuple #[.string r, .bool ok])
set_option maxRecDepth 20000 in
set_option maxHeartbeats 800000 in
theorem htmlEntity_any (name : ByteArray) (w : World) (h : HasEnt w) : Calls Tryz.prog 115 #[.string name] w (EntP name w) := by
  have H := hid h
  clear h
  go_enter Tryz.func115, Tryz.ntmps115
  go_wp2_with fail
  go_loopw [4] (fun t4 wr => ∃ i : Nat, i ≤ 12 ∧ t4 = .int .i64 i ∧ wr = w) (fun t4 _ => 12 - (intOf t4).toNat)
  case atStart => exact ⟨0, by omega, rfl, rfl⟩
  case round =>
    obtain ⟨i, hi, rfl, rfl⟩ := hrel
    by_cases hlt : i < 12
    · obtain ⟨a, b, ha, hb, hbs, ha96, hb96⟩ := ent_at i hlt
      have HA96 := hid ha96
      have HB96 := hid hb96
      clear ha96 hb96
      have c0 := H.out.at_ (i * 2) (by rw [Nat.mul_comm]; exact ha)
      have c1 := H.out.at_ (i * 2 + 1) (by rw [Nat.mul_comm]; exact hb)
      go_wp2_with fail
      · go_returns
        have hq : a.toList = name.toList := by (have h1 : (a.toList == name.toList) = true := by assumption); exact eq_of_beq h1
        rw [Lib.toList_data, Lib.toList_data] at hq
        exact ⟨rfl, b, true, hbs, fun _ => ⟨HB96.out, hq ▸ HA96.out⟩, rfl⟩
      · refine ⟨⟨i + 1, by omega, by go_num, trivial⟩, ?_⟩
        simp [intOf]
        omega
    · obtain rfl : i = 12 := by omega
      go_wp2_with fail
      go_returns
      exact ⟨rfl, ⟨#[]⟩, false, by decide, (fun h => nomatch h), rfl⟩
/-- ASCII punctuation. -/
def isPct (c : Int) : Bool := (decide (33 ≤ c) && decide (c ≤ 47)) || (decide (58 ≤ c) && decide (c ≤ 64)) || (decide (91 ≤ c) && decide (c ≤ 96)) || (decide (123 ≤ c) && decide (c ≤ 126))
theorem isPunct_any (c : Int) (w : World) : Calls Tryz.prog 102 #[.int .u8 c] w fun e w' => w' = w ∧ e = .returned (.bool (isPct c)) := by
  go_enter Tryz.func102, Tryz.ntmps102
  go_wp2
  all_goals go_ret
  all_goals refine ⟨rfl, ret_bool ?_⟩
  all_goals (unfold isPct; rw [Bool.eq_iff_iff]; simp; try omega)
def UnP (s : ByteArray) (w : World) (e : Ending) (w' : World) : Prop := ∃ l : List UInt8, l.length ≤ 8 * s.size ∧ ((96 : UInt8) ∈ l ↔ (96 : UInt8) ∈ s.data.toList) ∧ e = .returned (.string ⟨l.toArray⟩) ∧ Below w.heap.size w w'
def UnR (B b : Nat) (s : ByteArray) (w : World) (t6 : Value) (wr : World) : Prop :=
  ∃ (i : Nat) (bs : List UInt8), i ≤ s.size ∧ t6 = .int .i64 i ∧ bs.length ≤ 8 * i ∧ ((96 : UInt8) ∈ bs ↔ (96 : UInt8) ∈ s.data.toList.take i) ∧ IsBld B b bs wr ∧ Below w.heap.size w wr
theorem HasEnt.below {w w' : World} (h : HasEnt w) (hb : Below w.heap.size w w') : HasEnt w' := Blk.mod (S := fun _ => False) h (Mod.below' hb) (fun x => x)
theorem tick_ent (s : ByteArray) (i j : Nat) (bs : List UInt8) (r : ByteArray) (hij : i ≤ j) (_ : j ≤ s.size) (h : (96 : UInt8) ∈ bs ↔ (96 : UInt8) ∈ s.data.toList.take i) (hr : (96 : UInt8) ∉ r.data.toList) (hn : (96 : UInt8) ∉ (s.extract i (j + 1)).data.toList) : (96 : UInt8) ∈ bs ++ r.data.toList ↔ (96 : UInt8) ∈ s.data.toList.take (j + 1) := by
  rw [Lib.extract_data] at hn
  have e : s.data.toList.take (j + 1) = s.data.toList.take i ++ (s.data.toList.drop i).take (j + 1 - i) := by
    rw [← List.take_add, show i + (j + 1 - i) = j + 1 from by omega]
  rw [e, List.mem_append, List.mem_append, h]
  simp [hr, hn]
set_option maxRecDepth 20000 in
set_option maxHeartbeats 4000000 in
theorem unescape_any (s : ByteArray) (w : World) (hent : HasEnt w) (hs : s.size ≤ 100000) : Calls Tryz.prog 169 #[.agg #[], .string s] w (UnP s w) := by
  have hb := get_bt s
  have HE := hid hent
  have hgl := Blk.lt hent
  clear hent
  go_enter Tryz.func169, Tryz.ntmps169
  go_wp2_with fail
  go_loopw [6] (fun t6 wr => UnR (w.heap.size + 1) (w.heap.size + 1) s w t6 wr) (fun t6 _ => s.size - (intOf t6).toNat)
  case atStart => exact ⟨0, [], Nat.zero_le _, rfl, by simp, by simp, by unfold IsBld; simpa [Lib.byteCells] using Lib.fresh_isBuilder 59 5 (w.alloc (Obj.cells #[] 270)), ((Below.refl _ _).alloc (Nat.le_refl _) _).alloc (by simp) _⟩
  case round =>
    obtain ⟨i, bs, hi, rfl, hbs, htk, hbd, hbe⟩ := hrel
    have HTK := hid htk
    clear htk
    have hlw : w.heap.size + 1 ≤ wr.heap.size := by
      rcases hbd with h | h <;> exact Nat.le_of_lt h.lt
    have hew := hid (HE.out.below hbe)
    have HBD := hid hbd
    have HBE := hid hbe
    clear hbd hbe
    by_cases hlt : i < s.size
    · have hll : i < s.data.toList.length := by rw [← Lib.size_eq]; exact hlt
      have hbt : bt s i = ((s.data.toList[i]'hll).toNat : Int) := by unfold bt; rw [dif_pos hlt]; rfl
      have hwb := hid (fun (W : World) (h : IsBld (w.heap.size + 1) (w.heap.size + 1) bs W) (hW : w.heap.size + 1 ≤ W.heap.size) => bld_byte (w.heap.size + 1) (w.heap.size + 1) bs (s.data.toList[i]'hll) W h hW (by omega))
      have hT1 := hid (show ((96 : UInt8) ∈ bs ++ [s.data.toList[i]'hll] ↔ (96 : UInt8) ∈ s.data.toList.take (i + 1)) by rw [List.take_add_one, List.getElem?_eq_getElem hll]; simp [HTK.out])
      have hT0 := hid (show ∀ x : UInt8, (bs ++ [s.data.toList[i]'hll, x] = bs ++ [s.data.toList[i]'hll] ++ [x]) from fun x => by simp)
      have hcn := hid hbt
      rw [← hbt] at hwb
      generalize s.data.toList[i]'hll = c0 at hwb hT1 hT0 hcn
      clear hbt hll
      rcases (by omega : bt s i = 92 ∨ bt s i = 38 ∨ (bt s i ≠ 92 ∧ bt s i ≠ 38)) with hc | hc | ⟨hc, hc2⟩
      · by_cases hlt1 : i + 1 < s.size
        · have hll1 : i + 1 < s.data.toList.length := by rw [← Lib.size_eq]; exact hlt1
          have hbt1 : bt s (i + 1) = ((s.data.toList[i + 1]'hll1).toNat : Int) := by unfold bt; rw [dif_pos hlt1]; rfl
          have hwb1 := hid (fun (W : World) (h : IsBld (w.heap.size + 1) (w.heap.size + 1) bs W) (hW : w.heap.size + 1 ≤ W.heap.size) => bld_byte (w.heap.size + 1) (w.heap.size + 1) bs (s.data.toList[i + 1]'hll1) W h hW (by omega))
          have hT2 := hid (show ((96 : UInt8) ∈ bs ++ [s.data.toList[i + 1]'hll1] ↔ (96 : UInt8) ∈ s.data.toList.take (i + 2)) by
            rw [List.take_add_one, List.getElem?_eq_getElem hll1]
            have h1 := hT1.out
            have h2 : (96 : UInt8) ≠ c0 := fun e => by have h3 := hcn.out; rw [← e, hc] at h3; cases h3
            simp only [List.mem_append, List.mem_singleton, h2, or_false] at h1
            simp [h1])
          rw [← hbt1] at hwb1
          generalize s.data.toList[i + 1]'hll1 = c1 at hwb1 hT2
          clear hbt1 hll1
          go_wp2_with fail
          refine (isPunct_any (bt s (i + 1)) _).mono ?_
          rintro e w2 ⟨rfl, rfl⟩
          cases hp : isPct (bt s (i + 1)) with
          | true =>
            go_wp2_with fail
            refine (hwb1.out _ HBD.out hlw).mono ?_
            rintro e w2 ⟨rfl, hb2, hl2⟩
            have HB2 := hid hb2
            have HL2 := hid (HBE.out.trans (hl2.mono (by omega)))
            clear hb2 hl2
            go_wp2_with fail
            go_roundw
            case rel => exact ⟨i + 2, bs ++ [c1], by omega, by go_num, by simp; omega, hT2.out, HB2.out, HL2.out⟩
            case measure => simp [intOf]; omega
          | false =>
            go_wp2_with fail
            rw [hc] at hwb
            refine (hwb.out _ HBD.out hlw).mono ?_
            rintro e w2 ⟨rfl, hb2, hl2⟩
            have HB2 := hid hb2
            have HL2 := hid (HBE.out.trans (hl2.mono (by omega)))
            clear hb2 hl2
            go_wp2_with fail
            go_roundw
            case rel => exact ⟨i + 1, bs ++ [c0], by omega, by go_num, by simp; omega, hT1.out, HB2.out, HL2.out⟩
            case measure => simp [intOf]; omega
        · go_wp2_with fail
          rw [hc] at hwb
          refine (hwb.out _ HBD.out hlw).mono ?_
          rintro e w2 ⟨rfl, hb2, hl2⟩
          have HB2 := hid hb2
          have HL2 := hid (HBE.out.trans (hl2.mono (by omega)))
          clear hb2 hl2
          go_wp2_with fail
          go_roundw
          case rel => exact ⟨i + 1, bs ++ [c0], by omega, by go_num, by simp; omega, hT1.out, HB2.out, HL2.out⟩
          case measure => simp [intOf]; omega
      · rw [hc] at hwb
        go_wp2_with fail
        go_loopw [7] (fun t7 wx => ∃ j : Nat, i + 1 ≤ j ∧ j ≤ s.size ∧ t7 = .int .i64 j ∧ wx = wr) (fun t7 _ => s.size - (intOf t7).toNat)
        case atStart => exact ⟨i + 1, by omega, by omega, by go_num, rfl⟩
        case round =>
          obtain ⟨j, hij, hjs, rfl, rfl⟩ := hrel
          by_cases hj : j < s.size
          · by_cases h59 : bt s j = 59
            · go_wp2_with fail
              refine (htmlEntity_any _ _ hew.out).mono ?_
              rintro e w2 ⟨rfl, r, ok, hr, hr96, rfl⟩
              have HR96 := hid hr96
              clear hr96
              cases ok with
              | true =>
                go_wp2_with fail
                refine (bld_str (w.heap.size + 1) (w.heap.size + 1) bs r _ HBD.out hlw (by omega)).mono ?_
                rintro e w3 ⟨rfl, hb2, hl2⟩
                have HB2 := hid hb2
                have HL2 := hid (HBE.out.trans (hl2.mono (by omega)))
                clear hb2 hl2
                go_wp2_with fail
                go_roundw
                case rel => exact ⟨j + 1, bs ++ r.data.toList, by omega, by go_num, by rw [List.length_append, ← Lib.size_eq]; omega, tick_ent s i j bs r (by omega) hjs HTK.out (HR96.out trivial).1 (HR96.out trivial).2, HB2.out, HL2.out⟩
                case measure => simp [intOf]; omega
              | false =>
                go_wp2_with fail
                refine (hwb.out _ HBD.out hlw).mono ?_
                rintro e w2 ⟨rfl, hb2, hl2⟩
                have HB2 := hid hb2
                have HL2 := hid (HBE.out.trans (hl2.mono (by omega)))
                clear hb2 hl2
                go_wp2_with fail
                go_roundw
                case rel => exact ⟨i + 1, bs ++ [c0], by omega, by go_num, by simp; omega, hT1.out, HB2.out, HL2.out⟩
                case measure => simp [intOf]; omega
            · have h59' : (bt s j == 59) = false := by simp; omega
              go_wp2_with fail
              go_roundw
              case rel => exact ⟨j + 1, by omega, by omega, by go_num, trivial⟩
              case measure => simp [intOf]; omega
          · go_wp2_with fail
            refine (hwb.out _ HBD.out hlw).mono ?_
            rintro e w2 ⟨rfl, hb2, hl2⟩
            have HB2 := hid hb2
            have HL2 := hid (HBE.out.trans (hl2.mono (by omega)))
            clear hb2 hl2
            go_wp2_with fail
            go_roundw
            case rel => exact ⟨i + 1, bs ++ [c0], by omega, by go_num, by simp; omega, hT1.out, HB2.out, HL2.out⟩
            case measure => simp [intOf]; omega
      · have e92 : (bt s i == 92) = false := by simp; omega
        have e38 : (bt s i == 38) = false := by simp; omega
        go_wp2_with fail
        refine (hwb.out wr HBD.out hlw).mono ?_
        rintro e w2 ⟨rfl, hb2, hl2⟩
        have HB2 := hid hb2
        have HL2 := hid (HBE.out.trans (hl2.mono (by omega)))
        clear hb2 hl2
        go_wp2_with fail
        go_roundw
        case rel => exact ⟨i + 1, bs ++ [c0], by omega, by go_num, by simp; omega, hT1.out, HB2.out, HL2.out⟩
        case measure => simp [intOf]; omega
    · obtain rfl : i = s.size := by omega
      have HTK2 : Hid ((96 : UInt8) ∈ bs ↔ (96 : UInt8) ∈ s.data.toList) := hid (by have h1 := HTK.out; rw [List.take_of_length_le (by rw [← Lib.size_eq]; exact Nat.le_refl _)] at h1; exact h1)
      go_wp2_with fail
      refine (bld_string (w.heap.size + 1) (w.heap.size + 1) bs wr HBD.out hlw).mono ?_
      rintro e w2 ⟨rfl, hb2⟩
      have HL2 := hid (HBE.out.trans (hb2.mono (by omega)))
      clear hb2
      go_wp2_with fail
      go_returns
      exact ⟨bs, hbs, HTK2.out, rfl, HL2.out⟩
end Go.Proofs.YtmcjhcfhglfmlaaGreatDoor
