/- Small functions that several laws call: a byte in a text, a text some times, the alphabet without a byte. -/
import Derived.Test.YtmcjhcfhglfmlaaGreatDoorLawBreak0
import Derived.Test.YtmcjhcfhglfmlaaGreatDoorLaw
import Derived.Test.YtmcjhcfhglfmlaaGreatDoorOwn
import Derived.OwnWalk
import Derived.Lib.Bytealg
import Derived.Laws.IdiomStrings
import Derived.Deep.AppendLies
namespace Go.Proofs.YtmcjhcfhglfmlaaGreatDoor
open Go.RowKit
/-- A truth value is returned, which, where it is true, says P; the world is as it was. -/
def BoolF (P : Prop) (w : World) (e : Ending) (w' : World) : Prop := (∃ b, e = .returned (.bool b) ∧ (b = true → P)) ∧ w = w'
theorem BoolF.no {P : Prop} (w : World) : BoolF P w (.returned (.bool false)) w := ⟨⟨_, rfl, fun h => by cases h⟩, rfl⟩
theorem BoolF.yes {P : Prop} (w : World) (h : P) : BoolF P w (.returned (.bool true)) w := ⟨⟨_, rfl, fun _ => h⟩, rfl⟩
theorem indexByte_mem (l : List UInt8) (c : UInt8) : (c ∈ l → 0 ≤ Lib.indexByte l c) ∧ (c ∉ l → Lib.indexByte l c = -1) := by
  induction l with
  | nil => exact ⟨fun h => (by cases h), fun _ => rfl⟩
  | cons a t ih =>
    unfold Lib.indexByte
    by_cases hac : a = c
    · subst hac
      exact ⟨fun _ => by simp, fun h => absurd (List.mem_cons_self ..) h⟩
    · have hb : (a == c) = false := by simpa using hac
      rw [hb]
      simp only [Bool.false_eq_true, if_false]
      by_cases hm : c ∈ t
      · have h1 := ih.1 hm
        refine ⟨fun _ => ?_, fun h => absurd (List.mem_cons_of_mem _ hm) h⟩
        have : (Lib.indexByte t c == -1) = false := by simp; omega
        rw [this]
        simp
        omega
      · have h1 := ih.2 hm
        refine ⟨fun h => ?_, fun _ => by rw [h1]; rfl⟩
        rcases List.mem_cons.1 h with e | e
        · exact absurd e.symm hac
        · exact absurd e hm
set_option maxRecDepth 100000 in
set_option maxHeartbeats 1000000 in
theorem indexByte_any (s : ByteArray) (c : Int) (w : World) :
    Calls Tryz.prog 28 #[.string s, .int .u8 c] w fun e w' => e = .returned (.int .i64 (Lib.indexByte s.data.toList c.toNat.toUInt8)) ∧ w = w' := by
  go_enter Tryz.func28, Tryz.ntmps28
  go_wp2
  rw [run_callFunc_extern Tryz.func52 (by kernel_rfl) (by kernel_rfl) (by kernel_rfl) (e := Extern.BytealgIndexByte.indexByte) (by kernel_rfl), Lib.run_indexByteString]
  simp only [Result.andThen]
  rw [Oper.upon_value]
  go_wp2
  go_ret
  exact ⟨rfl, rfl⟩
/-- A text of at most m bytes of an alphabet. -/
def OnlyP (l al : List UInt8) (m : Nat) : Prop := l.length ≤ m ∧ ∀ c ∈ l, c ∈ al
def OnlyR (l al : List UInt8) (t14 : Value) : Prop := ∃ k : Nat, k ≤ l.length ∧ t14 = .int .i64 k ∧ ∀ c ∈ l.take k, c ∈ al
set_option maxHeartbeats 800000 in
theorem only_any (l al : List UInt8) (m : Nat) (w : World) (_ : m ≤ 1000000) (_ : l.length ≤ 9223372036854775807) :
    Calls Tryz.prog 9 #[.string ⟨l.toArray⟩, .string ⟨al.toArray⟩, .int .i64 m] w (BoolF (OnlyP l al m) w) := by
  have hz : (ByteArray.mk l.toArray).size = l.length := List.size_toArray ..
  have hbt := hid (fun (k : Nat) (h : k < l.length) => (by rw [bt_list, List.getElem?_eq_getElem h] : bt ⟨l.toArray⟩ k = ((l[k]'h).toNat : Int)))
  have HZ := hid hz
  generalize hs : (ByteArray.mk l.toArray) = s at hz hbt HZ ⊢
  have hb := get_bt s
  clear hs
  by_cases hlm : l.length ≤ m
  · have hlm2 : s.size ≤ m := by omega
    have hd : decide (m < s.size) = false := by simp; omega
    clear hz
    go_enter Tryz.func9, Tryz.ntmps9
    go_wp2_with fail
    go_loop [14] (fun t14 => OnlyR l al t14) (fun t14 => l.length - (intOf t14).toNat)
    case atStart => exact ⟨0, Nat.zero_le _, rfl, by simp⟩
    case round =>
      obtain ⟨k, hk, rfl, hin⟩ := hrel
      have HIN := hid hin
      clear hin
      by_cases hlt : k < l.length
      · have hks : k < s.size := by have := HZ.out; omega
        have hck := hid (hbt.out k hlt)
        have hu8 : Hid ((bt s k).toNat.toUInt8 = l[k]'hlt) := hid (by rw [hck.out]; simp)
        have htk := hid (show l.take (k + 1) = l.take k ++ [l[k]'hlt] by rw [List.take_add_one, List.getElem?_eq_getElem hlt]; rfl)
        have hmem := hid (indexByte_mem al (l[k]'hlt))
        generalize l[k]'hlt = c at hck hu8 htk hmem
        go_wp2_with fail
        refine (indexByte_any ⟨al.toArray⟩ (bt s k) w).mono ?_
        rintro e w' ⟨rfl, rfl⟩
        rw [hu8.out]
        by_cases hc : c ∈ al
        · have h0 := hmem.out.1 hc
          have h1 : ¬ Lib.indexByte al c < 0 := by omega
          go_wp2_with fail
          go_round
          case rel => exact ⟨k + 1, by omega, by go_num, by rw [htk.out]; intro x hx; rcases List.mem_append.1 hx with hx | hx; (· exact HIN.out x hx); (simp at hx; subst hx; exact hc)⟩
          case measure => simp [intOf]; omega
        · have h0 := hmem.out.2 hc
          have h1 : Lib.indexByte al c < 0 := by omega
          clear h0
          go_wp2_with fail
          go_ret
          exact BoolF.no _
      · obtain rfl : k = l.length := by omega
        have hks : ¬ l.length < s.size := by have := HZ.out; omega
        go_wp2_with fail
        go_ret
        exact BoolF.yes _ ⟨hlm, by have := HIN.out; rwa [List.take_of_length_le (Nat.le_refl _)] at this⟩
  · have hlm2 : m < s.size := by omega
    clear hz
    go_enter Tryz.func9, Tryz.ntmps9
    go_wp2_with fail
    go_ret
    exact BoolF.no _
/-- A sign, so and so often. -/
def repF (k : Nat) (c : UInt8) : ByteArray := ⟨(List.replicate k c).toArray⟩
theorem repF_succ (k : Nat) (c : UInt8) : repF k c ++ (ByteArray.mk #[c]) = repF (k + 1) c := by
  unfold repF
  rw [show (ByteArray.mk #[c]) = ⟨[c].toArray⟩ from rfl, cat_lists, List.replicate_succ']
theorem repF_size (k : Nat) (c : UInt8) : (repF k c).size = k := by simp [repF, ByteArray.size]
set_option maxHeartbeats 400000 in
theorem timesF_any (c : UInt8) (n : Nat) (w : World) (hn : n ≤ 1000) : Calls Tryz.prog 11 #[.string ⟨#[c]⟩, .int .i64 n] w fun e w' => e = .returned (.string (repF n c)) ∧ w = w' := by
  have HC := hid (repF_succ · c)
  go_enter Tryz.func11, Tryz.ntmps11
  go_wp2
  go_loop [5, 7] (fun t5 t7 => ∃ k : Nat, k ≤ n ∧ t7 = .int .i64 k ∧ t5 = .string (repF k c)) (fun _ t7 => n - (intOf t7).toNat)
  case atStart => exact ⟨0, Nat.zero_le _, rfl, rfl⟩
  case round =>
    obtain ⟨k, hk, rfl, rfl⟩ := hrel
    have hz := repF_size k c
    by_cases hlt : k < n
    · go_wp2
      go_round
      case rel => exact ⟨k + 1, by omega, by go_num, by rw [← HC.out]⟩
      case measure => simp [intOf]; omega
    · obtain rfl : k = n := by omega
      go_wp2
      go_ret
      exact ⟨rfl, rfl⟩
theorem infoU8 : (Tryz.prog.info? 5).map (fun i => (i.zero, i.size, i.bytes)) = some (some (.int .u8 0), 1, 1) := by kernel_rfl
def byteV (c : UInt8) : Value := .int .u8 (c.toNat : Int)
def WoR (w0 : World) (x : Nat) (t3 t4 : Value) (wr : World) : Prop :=
  ∃ (k : Nat) (l : List UInt8) (g cap : Nat), 32 ≤ k ∧ k ≤ 127 ∧ t4 = .int .u8 k ∧ t3 = .slice (some ⟨g, 0, none⟩) l.length cap ∧ wr.ownsRow w0.heap.size 5 1 (.slice (some ⟨g, 0, none⟩) l.length cap) l.length (l.map byteV) ∧
    (∀ c ∈ l, 32 ≤ c.toNat ∧ c.toNat ≤ 126 ∧ c.toNat ≠ x) ∧ l.length ≤ k - 32 ∧ Below w0.heap.size w0 wr
set_option maxRecDepth 20000 in
set_option maxHeartbeats 1600000 in
theorem withoutByte_any (x : Nat) (w : World) (hx : x < 256) : Calls Tryz.prog 10 #[.int .u8 x] w fun e w' => (∃ l : List UInt8, e = .returned (.string ⟨l.toArray⟩) ∧ (∀ c ∈ l, 32 ≤ c.toNat ∧ c.toNat ≤ 126 ∧ c.toNat ≠ x) ∧ l.length ≤ 95) ∧ Below w.heap.size w w' := by
  obtain ⟨is0, his, hsz0, hsz1, hsz2⟩ := info_parts infoU8
  go_enter Tryz.func10, Tryz.ntmps10
  go_wp2_with fail
  go_loopw [3, 4] (fun t3 t4 wr => WoR w x t3 t4 wr) (fun _ t4 _ => 127 - (intOf t4).toNat)
  case atStart => exact ⟨32, [], w.heap.size, 0, by omega, by omega, rfl, rfl, ⟨rfl, .inr ⟨w.heap.size, 0, #[], rfl, Nat.le_refl _, Blk.new _ _ _, by simp, by unfold maxLen; omega, rfl, rfl⟩⟩, by simp, by simp, (Below.refl _ _).alloc (Nat.le_refl _) _⟩
  case round =>
    obtain ⟨k, l, g, cap, hk1, hk2, rfl, rfl, hown, hin, hlen, hbel⟩ := hrel
    have HOWN := hid hown
    have HIN := hid hin
    have HB := hid hbel
    clear hown hin hbel
    by_cases hlt : k ≤ 126
    · by_cases hkx : k = x
      · subst hkx
        go_wp2_with fail
        go_roundw
        case rel => exact ⟨k + 1, l, g, cap, by omega, by omega, by go_num, rfl, HOWN.out, HIN.out, by omega, HB.out⟩
        case measure => simp [intOf]; omega
      · have hne : ((k : Int) != (x : Int)) = true := by simp; omega
        have hu : Hid (byteV (UInt8.ofNat k) = .int .u8 k) := hid (by unfold byteV; rw [UInt8.toNat_ofNat_of_lt' (show k < UInt8.size from by show k < 256; omega)])
        have hrow : Hid ((l ++ [UInt8.ofNat k]).map byteV = l.map byteV ++ [.int .u8 k]) := hid (by rw [List.map_append, List.map_cons, List.map_nil, hu.out])
        go_wp2_with (at_builtin; refine wpList_append_own_at _ rfl (.tmp 13) (.tmp 15) 43 rfl w.heap.size 5 is0 _ 1 1 Tryz.underlying43 his hsz0 hsz1 hsz2 rfl (by decide) (.slice (some ⟨g, 0, none⟩) l.length cap) l.length (l.map byteV) rfl (World.ownsRow.alloc HOWN.out _) ⟨wr.heap.size, 0, none⟩ 1 1 [.int .u8 k] rfl rfl (World.news_of_block (heap_alloc_new _ _)) (by intro v hv; simp at hv; subst hv; rfl) (by unfold maxLen; omega) (by omega) (by have := HB.out.size; simp; omega) ?_)
        intro v' w2 hown2 hgr hnil hat
        obtain ⟨g2, cap2, rfl, hc2'⟩ : ∃ g2 cap2, v' = .slice (some ⟨g2, 0, none⟩) (l.length + 1) cap2 ∧ l.length + 1 ≤ cap2 := by
          rcases hown2.2 with ⟨h1, h2⟩ | ⟨g2, cap2, cur, h1, _, _, h2, _⟩
          · exact absurd h2 (by omega)
          · exact ⟨g2, cap2, h1, h2⟩
        rw [← hrow.out] at hown2
        have HO2 := hid hown2
        have HB2 := hid ((HB.out.alloc HB.out.size _).grown hgr (by have := HB.out.size; simp; omega) (fun q hq => ownBase HOWN.out hq.symm))
        clear hown2 hgr hnil hat
        go_wp2_with fail
        go_roundw
        case rel => exact ⟨k + 1, l ++ [UInt8.ofNat k], g2, cap2, by omega, by omega, by go_num, by simp, by simpa using HO2.out, (by intro c hc; rcases List.mem_append.1 hc with hc | hc; (· exact HIN.out c hc); (simp at hc; subst hc; rw [UInt8.toNat_ofNat_of_lt' (show k < UInt8.size from by show k < 256; omega)]; omega)), by simp; omega, HB2.out⟩
        case measure => simp [intOf]; omega
    · obtain rfl : k = 127 := by omega
      have hcv := run_convert_bytes_back (P := Tryz.prog) wr 43 9 5 ⟨g, 0, none⟩ cap l Tryz.underlying43 Tryz.underlying5 Tryz.underlying9 (fun j hj => by
        have := World.ownsRow.cellAt HOWN.out j (by simpa using hj)
        rw [List.getElem?_map, List.getElem?_eq_getElem hj] at this
        rw [show ((⟨g, 0, none⟩ : Addr).add j) = ⟨g, j, none⟩ from by unfold Addr.add; split <;> simp_all]
        simpa [byteV] using this)
      go_wp2_with fail
      go_ret
      exact ⟨⟨l, rfl, HIN.out, by omega⟩, HB.out⟩
end Go.Proofs.YtmcjhcfhglfmlaaGreatDoor
