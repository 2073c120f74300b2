/- PROVED: for every kind and every list of lines of letters, a block of HTML of the first seven kinds ends a paragraph, one of the last kind does not (the law FnInterrupts returns true). -/
import Derived.Test.YtmmijmhdbpldpaaGreatDoorCInt15
import Derived.Test.YtmmijmhdbpldpaaGreatDoorCInt05
import Derived.Test.YtmmijmhdbpldpaaGreatDoorCInt02
import Derived.Test.YtmmijmhdbpldpaaGreatDoorCInt01
import Derived.Deep.Strs
import Derived.Test.YtmmijmhdbpldpaaGreatDoorCards
import Derived.Test.YtmmijmhdbpldpaaGreatDoorTie
import Derived.Stop.LaidErr
import Derived.ChangeMaps5
/- The tag of another name, within a paragraph. -/


namespace Go.Proofs.YtmmijmhdbpldpaaGreatDoor
open Go.RowKit
def ots : List UInt8 := [111, 119, 110, 45, 116, 97, 103]
theorem ots_all {Q : Int → Prop} (h1 : Q 111) (h2 : Q 119) (h3 : Q 110) (h4 : Q 45) (h5 : Q 116) (h6 : Q 97) (h7 : Q 103) : ∀ c ∈ ots, Q (c.toNat : Int) := by
  intro c hc
  unfold ots at hc
  simp only [List.mem_cons, List.not_mem_nil, or_false] at hc
  rcases hc with rfl | rfl | rfl | rfl | rfl | rfl | rfl
  · exact h1
  · exact h2
  · exact h3
  · exact h4
  · exact h5
  · exact h6
  · exact h7
theorem ild_111 (z : Int) (w : World) (h1 : 97 ≤ z) (h2 : z ≤ 122) : Calls Tryz.prog 130 #[.int .u8 z] w fun e w' => e = .returned (.bool true) ∧ w = w' := by
  go_enter Tryz.func130, Tryz.ntmps130
  go_wp2_with fail
  all_goals go_ret
  all_goals exact ⟨rfl, rfl⟩
theorem ild_45 (w : World) : Calls Tryz.prog 130 #[.int .u8 45] w fun e w' => e = .returned (.bool false) ∧ w = w' := by
  go_enter Tryz.func130, Tryz.ntmps130
  go_wp2_with fail
  go_ret
  exact ⟨rfl, rfl⟩
theorem ild_62 (w : World) : Calls Tryz.prog 130 #[.int .u8 62] w fun e w' => e = .returned (.bool false) ∧ w = w' := by
  go_enter Tryz.func130, Tryz.ntmps130
  go_wp2_with fail
  go_ret
  exact ⟨rfl, rfl⟩
theorem ldh_a (z : Int) (w : World) (h1 : 97 ≤ z) (h2 : z ≤ 122) : Calls Tryz.prog 185 #[.int .u8 z] w fun e w' => e = .returned (.bool true) ∧ w = w' := by
  have H := hid (ild_111 z w h1 h2)
  go_enter Tryz.func185, Tryz.ntmps185
  go_wp2_with fail
  refine H.out.mono ?_
  rintro e w' ⟨rfl, rfl⟩
  go_wp2_with fail
  go_ret
  exact ⟨rfl, rfl⟩
theorem ldh_45 (w : World) : Calls Tryz.prog 185 #[.int .u8 45] w fun e w' => e = .returned (.bool true) ∧ w = w' := by
  go_enter Tryz.func185, Tryz.ntmps185
  go_wp2_with fail
  refine (ild_45 w).mono ?_
  rintro e w' ⟨rfl, rfl⟩
  go_wp2_with fail
  go_ret
  exact ⟨rfl, rfl⟩
theorem ldh_62 (w : World) : Calls Tryz.prog 185 #[.int .u8 62] w fun e w' => e = .returned (.bool false) ∧ w = w' := by
  go_enter Tryz.func185, Tryz.ntmps185
  go_wp2_with fail
  refine (ild_62 w).mono ?_
  rintro e w' ⟨rfl, rfl⟩
  go_wp2_with fail
  go_ret
  exact ⟨rfl, rfl⟩
theorem sch_a (z : Int) (w : World) (h1 : 97 ≤ z) (h2 : z ≤ 122) : Calls Tryz.prog 148 #[.int .u8 z] w fun e w' => e = .returned (.bool true) ∧ w = w' := by
  have H := hid (ild_111 z w h1 h2)
  go_enter Tryz.func148, Tryz.ntmps148
  go_wp2_with fail
  refine (H.out).mono ?_
  rintro e w' ⟨rfl, rfl⟩
  go_wp2_with fail
  go_ret
  exact ⟨rfl, rfl⟩
theorem sch_45 (w : World) : Calls Tryz.prog 148 #[.int .u8 45] w fun e w' => e = .returned (.bool true) ∧ w = w' := by
  go_enter Tryz.func148, Tryz.ntmps148
  go_wp2_with fail
  refine (ild_45 w).mono ?_
  rintro e w' ⟨rfl, rfl⟩
  go_wp2_with fail
  go_ret
  exact ⟨rfl, rfl⟩
theorem sch_62 (w : World) : Calls Tryz.prog 148 #[.int .u8 62] w fun e w' => e = .returned (.bool false) ∧ w = w' := by
  go_enter Tryz.func148, Tryz.ntmps148
  go_wp2_with fail
  refine (ild_62 w).mono ?_
  rintro e w' ⟨rfl, rfl⟩
  go_wp2_with fail
  go_ret
  exact ⟨rfl, rfl⟩
theorem let_a (z : Int) (w : World) (h1 : 97 ≤ z) (h2 : z ≤ 122) : Calls Tryz.prog 142 #[.int .u8 z] w fun e w' => e = .returned (.bool true) ∧ w = w' := by
  go_enter Tryz.func142, Tryz.ntmps142
  go_wp2_with fail
  all_goals go_ret
  all_goals exact ⟨rfl, rfl⟩
theorem usr_a (z : Int) (w : World) (h1 : 97 ≤ z) (h2 : z ≤ 122) : Calls Tryz.prog 150 #[.int .u8 z] w fun e w' => e = .returned (.bool true) ∧ w = w' := by
  have H := hid (ild_111 z w h1 h2)
  go_enter Tryz.func150, Tryz.ntmps150
  go_wp2_with fail
  refine H.out.mono ?_
  rintro e w' ⟨rfl, rfl⟩
  go_wp2_with fail
  go_ret
  exact ⟨rfl, rfl⟩
def usL : List UInt8 := [46, 33, 35, 36, 37, 38, 39, 42, 43, 47, 61, 63, 94, 95, 96, 123, 124, 125, 126, 45]
set_option maxRecDepth 20000 in
theorem usr_x (z : UInt8) (b : Bool) (w : World) (h0 : Calls Tryz.prog 130 #[.int .u8 (z.toNat : Int)] w fun e w' => e = .returned (.bool false) ∧ w = w') (hb : b = true ↔ z ∈ usL) : Calls Tryz.prog 150 #[.int .u8 (z.toNat : Int)] w fun e w' => e = .returned (.bool b) ∧ w = w' := by
  have H := hid h0
  have HB := hid hb
  clear h0 hb
  have HU : Hid (∀ k, k < 20 → ∃ c, usL[k]? = some c ∧ bt ⟨usL.toArray⟩ k = (c.toNat : Int)) := hid (fun k hk => by
    obtain ⟨c, h1, h2, h3⟩ := bt_get (t := usL) (k := k) hk
    exact ⟨c, h1, h3⟩)
  go_enter Tryz.func150, Tryz.ntmps150
  go_wp2_with fail
  refine H.out.mono ?_
  rintro e w' ⟨rfl, rfl⟩
  go_wp2_with fail
  rw [show (ByteArray.mk #[46, 33, 35, 36, 37, 38, 39, 42, 43, 47, 61, 63, 94, 95, 96, 123, 124, 125, 126, 45]) = ⟨usL.toArray⟩ from rfl]
  have hU : (ByteArray.mk usL.toArray).size = 20 := rfl
  generalize ByteArray.mk usL.toArray = S at HU hU ⊢
  have hbS := get_bt S
  go_loop [4] (fun t4 => ∃ i : Nat, i ≤ 20 ∧ t4 = .int .i64 i ∧ ∀ k c, k < i → usL[k]? = some c → c ≠ z) (fun t4 => 21 - (intOf t4).toNat)
  case atStart => exact ⟨0, by omega, rfl, fun k c h => absurd h (by omega)⟩
  case round =>
    obtain ⟨i, hi, rfl, hno⟩ := hrel
    have HN := hid hno
    clear hno
    by_cases hlt : i < 20
    · obtain ⟨c, hc, hbc⟩ := HU.out i hlt
      by_cases he : c = z
      · have e1 : ((z.toNat : Int) == bt S i) = true := by rw [hbc, he]; simp
        have hbt : b = true := HB.out.2 (by rw [← he]; exact List.mem_of_getElem? hc)
        go_wp2_with fail
        go_ret
        subst hbt
        exact ⟨rfl, rfl⟩
      · have e1 : ((z.toNat : Int) == bt S i) = false := by
          rw [hbc, beq_eq_false_iff_ne]
          intro e
          exact he (UInt8.toNat_inj.1 (by omega))
        have HC := hid hc
        clear hc
        go_wp2_with fail
        go_round
        case rel => exact ⟨i + 1, by omega, by go_num, fun k d hk hd => by
          rcases Nat.lt_or_ge k i with h | h
          · exact HN.out k d h hd
          · obtain rfl : k = i := by omega
            rw [HC.out] at hd
            cases hd
            exact he⟩
        case measure => simp [intOf]; omega
    · have hbf : b = false := by
        cases hbb : b with
        | false => rfl
        | true =>
          obtain ⟨k, hk, e⟩ := List.mem_iff_getElem.1 (HB.out.1 hbb)
          have hk' : k < 20 := hk
          exact absurd e (HN.out k _ (by omega) (List.getElem?_eq_getElem hk))
      go_wp2_with fail
      go_ret
      subst hbf
      exact ⟨rfl, rfl⟩
end Go.Proofs.YtmmijmhdbpldpaaGreatDoor
/- The tag of another name is read as a tag. -/

namespace Go.Proofs.YtmmijmhdbpldpaaGreatDoor
open Go.RowKit
def ownQ : List UInt8 := [60, 111, 119, 110, 45, 116, 97, 103, 62]
structure OwnAt (s : ByteArray) (i : Nat) : Prop where
  size : s.size = i + 9
  small : s.size ≤ 20000
  b0 : bt s i = 60
  chr : ∀ m, i < m → m < i + 8 → (97 ≤ bt s m ∧ bt s m ≤ 122) ∨ bt s m = 45
  b1 : 97 ≤ bt s (i + 1) ∧ bt s (i + 1) ≤ 122
  b8 : bt s (i + 8) = 62
theorem OwnAt.sch {s : ByteArray} {i : Nat} (h : OwnAt s i) (m : Nat) (h1 : i < m) (h2 : m < i + 8) (w : World) : Calls Tryz.prog 148 #[.int .u8 (bt s m)] w fun e w' => e = .returned (.bool true) ∧ w = w' := by
  rcases h.chr m h1 h2 with ⟨q1, q2⟩ | q
  · exact sch_a _ w q1 q2
  · rw [q]; exact sch_45 w
theorem OwnAt.usr {s : ByteArray} {i : Nat} (h : OwnAt s i) (m : Nat) (h1 : i < m) (h2 : m < i + 8) (w : World) : Calls Tryz.prog 150 #[.int .u8 (bt s m)] w fun e w' => e = .returned (.bool true) ∧ w = w' := by
  rcases h.chr m h1 h2 with ⟨q1, q2⟩ | q
  · exact usr_a _ w q1 q2
  · rw [q]; exact usr_x 45 true w (ild_45 w) (by decide)
theorem OwnAt.ldh {s : ByteArray} {i : Nat} (h : OwnAt s i) (m : Nat) (h1 : i < m) (h2 : m < i + 8) (w : World) : Calls Tryz.prog 185 #[.int .u8 (bt s m)] w fun e w' => e = .returned (.bool true) ∧ w = w' := by
  rcases h.chr m h1 h2 with ⟨q1, q2⟩ | q
  · exact ldh_a _ w q1 q2
  · rw [q]; exact ldh_45 w
theorem OwnAt.sch8 {s : ByteArray} {i : Nat} (h : OwnAt s i) (w : World) : Calls Tryz.prog 148 #[.int .u8 (bt s (i + 8))] w fun e w' => e = .returned (.bool false) ∧ w = w' := by rw [h.b8]; exact sch_62 w
theorem OwnAt.usr8 {s : ByteArray} {i : Nat} (h : OwnAt s i) (w : World) : Calls Tryz.prog 150 #[.int .u8 (bt s (i + 8))] w fun e w' => e = .returned (.bool false) ∧ w = w' := by rw [h.b8]; exact usr_x 62 false w (ild_62 w) (by decide)
theorem OwnAt.ldh8 {s : ByteArray} {i : Nat} (h : OwnAt s i) (w : World) : Calls Tryz.prog 185 #[.int .u8 (bt s (i + 8))] w fun e w' => e = .returned (.bool false) ∧ w = w' := by rw [h.b8]; exact ldh_62 w
set_option maxRecDepth 20000 in
set_option maxHeartbeats 1600000 in
theorem own_uri (s : ByteArray) (i : Nat) (w : World) (h : OwnAt s i) : Calls Tryz.prog 101 #[.string s, .int .i64 i] w fun e w' => e = .returned (.tuple #[.nilIface, .int .i64 0, .bool false]) ∧ w = w' := by
  have hb := get_bt s
  have hz := h.size
  have hsm := h.small
  have e1 : (bt s i != 60) = false := by rw [h.b0]; rfl
  have e8 : (bt s (i + 8) != 58) = true := by rw [h.b8]; rfl
  have H := hid h
  have b1 := hid h.b1
  clear h
  go_enter Tryz.func101, Tryz.ntmps101
  go_wp2_with fail
  refine (let_a _ w b1.out.1 b1.out.2).mono ?_
  rintro e w1 ⟨rfl, rfl⟩
  go_wp2_with fail
  go_loop [7] (fun t7 => ∃ m : Nat, i < m ∧ m ≤ i + 8 ∧ t7 = .int .i64 m) (fun t7 => s.size - (intOf t7).toNat)
  case atStart => exact ⟨i + 1, by omega, by omega, by go_num⟩
  case round =>
    obtain ⟨m, hm1, hm2, rfl⟩ := hrel
    by_cases hlt : m < i + 8
    · go_wp2_with fail
      refine (H.out.sch m hm1 hlt w).mono ?_
      rintro e w1 ⟨rfl, rfl⟩
      go_wp2_with fail
      go_round
      case rel => exact ⟨m + 1, by omega, by omega, by go_num⟩
      case measure => simp [intOf]; omega
    · obtain rfl : m = i + 8 := by omega
      go_wp2_with fail
      refine (H.out.sch8 w).mono ?_
      rintro e w1 ⟨rfl, rfl⟩
      go_wp2_with fail
      refine bodyPost_ret (by simp [results, Tryz.results101, go_sem]; try rfl) rfl ?_
      exact ⟨rfl, rfl⟩
set_option maxRecDepth 20000 in
set_option maxHeartbeats 1600000 in
theorem own_mail (s : ByteArray) (i : Nat) (w : World) (h : OwnAt s i) : Calls Tryz.prog 102 #[.string s, .int .i64 i] w fun e w' => e = .returned (.tuple #[.nilIface, .int .i64 0, .bool false]) ∧ w = w' := by
  have hb := get_bt s
  have hz := h.size
  have hsm := h.small
  have e1 : (bt s i != 60) = false := by rw [h.b0]; rfl
  have e8 : (bt s (i + 8) != 64) = true := by rw [h.b8]; rfl
  have H := hid h
  clear h
  go_enter Tryz.func102, Tryz.ntmps102
  go_wp2_with fail
  refine (H.out.usr (i + 1) (by omega) (by omega) w).mono ?_
  rintro e w1 ⟨rfl, rfl⟩
  go_wp2_with fail
  go_loop [7] (fun t7 => ∃ m : Nat, i < m ∧ m ≤ i + 8 ∧ t7 = .int .i64 m) (fun t7 => s.size - (intOf t7).toNat)
  case atStart => exact ⟨i + 1, by omega, by omega, by go_num⟩
  case round =>
    obtain ⟨m, hm1, hm2, rfl⟩ := hrel
    by_cases hlt : m < i + 8
    · go_wp2_with fail
      refine (H.out.usr m hm1 hlt w).mono ?_
      rintro e w1 ⟨rfl, rfl⟩
      go_wp2_with fail
      go_round
      case rel => exact ⟨m + 1, by omega, by omega, by go_num⟩
      case measure => simp [intOf]; omega
    · obtain rfl : m = i + 8 := by omega
      go_wp2_with fail
      refine (H.out.usr8 w).mono ?_
      rintro e w1 ⟨rfl, rfl⟩
      go_wp2_with fail
      refine bodyPost_ret (by simp [results, Tryz.results102, go_sem]; try rfl) rfl ?_
      exact ⟨rfl, rfl⟩
set_option maxRecDepth 20000 in
theorem own_name (s : ByteArray) (i : Nat) (w : World) (h : OwnAt s i) : Calls Tryz.prog 186 #[.string s, .int .i64 ((i : Int) + 1)] w fun e w' => e = .returned (.tuple #[.string (s.extract (i + 1) (i + 8)), .int .i64 ((i + 8 : Nat) : Int), .bool true]) ∧ w = w' := by
  have hb := get_bt s
  have hz := h.size
  have hsm := h.small
  have H := hid h
  have b1 := hid h.b1
  clear h
  go_enter Tryz.func186, Tryz.ntmps186
  go_wp2_with fail
  refine (let_a _ w b1.out.1 b1.out.2).mono ?_
  rintro e w1 ⟨rfl, rfl⟩
  go_wp2_with fail
  go_loop [7] (fun t7 => ∃ m : Nat, i < m ∧ m ≤ i + 8 ∧ t7 = .int .i64 m) (fun t7 => s.size - (intOf t7).toNat)
  case atStart => exact ⟨i + 2, by omega, by omega, by go_num⟩
  case round =>
    obtain ⟨m, hm1, hm2, rfl⟩ := hrel
    by_cases hlt : m < i + 8
    · go_wp2_with fail
      refine (H.out.ldh m hm1 hlt w).mono ?_
      rintro e w1 ⟨rfl, rfl⟩
      go_wp2_with fail
      go_round
      case rel => exact ⟨m + 1, by omega, by omega, by go_num⟩
      case measure => simp [intOf]; omega
    · obtain rfl : m = i + 8 := by omega
      go_wp2_with fail
      refine (H.out.ldh8 w).mono ?_
      rintro e w1 ⟨rfl, rfl⟩
      go_wp2_with fail
      refine bodyPost_ret (by simp [results, Tryz.results186, go_sem]; try rfl) rfl ?_
      exact ⟨rfl, rfl⟩
theorem own_attrName (s : ByteArray) (j : Nat) (w : World) (hj : s.size = j + 1) (hs : s.size ≤ 20000) : Calls Tryz.prog 198 #[.string s, .int .i64 j] w fun e w' => e = .returned (.tuple #[.string ⟨#[]⟩, .int .i64 0, .bool false]) ∧ w = w' := by
  go_enter Tryz.func198, Tryz.ntmps198
  go_wp2_with fail
  refine bodyPost_ret (by simp [results, Tryz.results198, go_sem]; try rfl) rfl ?_
  exact ⟨rfl, rfl⟩
theorem own_attr (p : Value) (s : ByteArray) (j : Nat) (w : World) (hj : s.size = j + 1) (hs : s.size ≤ 20000) (h62 : bt s j = 62) : Calls Tryz.prog 187 #[p, .string s, .int .i64 j] w fun e w' => e = .returned (.tuple #[.string ⟨#[]⟩, .int .i64 0, .bool false]) ∧ w = w' := by
  have HS := hid (skipSpace_no s j w (by omega) (by omega) (by rw [h62]; decide))
  have HA := hid (own_attrName s j w hj hs)
  go_enter Tryz.func187, Tryz.ntmps187
  go_wp2_with fail
  refine HS.out.mono ?_
  rintro e w1 ⟨rfl, rfl⟩
  go_wp2_with fail
  refine HA.out.mono ?_
  rintro e w1 ⟨rfl, rfl⟩
  go_wp2_with fail
  refine bodyPost_ret (by simp [results, Tryz.results187, go_sem]; try rfl) rfl ?_
  exact ⟨rfl, rfl⟩
set_option maxRecDepth 20000 in
set_option maxHeartbeats 1600000 in
theorem own_open (p : Value) (s : ByteArray) (i : Nat) (w : World) (h : OwnAt s i) (hnm : s.extract (i + 1) (i + 8) = ⟨#[111, 119, 110, 45, 116, 97, 103]⟩) : Calls Tryz.prog 152 #[p, .string s, .int .i64 i] w fun e w' => ∃ b, e = .returned (.tuple #[.iface 286 (.pointer (some ⟨b, 0, none⟩)), .int .i64 ((i + 9 : Nat) : Int), .bool true]) ∧ w.heap.size ≤ b ∧ Blk w' b 287 #[.string (s.extract i (i + 9))] ∧ Below w.heap.size w w' := by
  have hb := get_bt s
  have hz := h.size
  have hsm := h.small
  have e1 : (bt s i != 60) = false := by rw [h.b0]; rfl
  have b8 := h.b8
  have f1 : (bt s (i + 8) != 32) = true := by rw [b8]; rfl
  have f2 : (bt s (i + 8) != 9) = true := by rw [b8]; rfl
  have f3 : (bt s (i + 8) != 10) = true := by rw [b8]; rfl
  have f4 : (bt s (i + 8) != 47) = true := by rw [b8]; rfl
  have f5 : (bt s (i + 8) != 62) = false := by rw [b8]; rfl
  have f6 : (bt s (i + 8) == 47) = false := by rw [b8]; rfl
  have f7 : (bt s (i + 8) == 62) = true := by rw [b8]; rfl
  have HN := hid (own_name s i w h)
  rw [hnm] at HN
  have HA := hid (own_attr p s (i + 8) w (by omega) hsm b8)
  have HK := hid (skipSpace_no s (i + 8) w (by omega) (by omega) (by rw [b8]; decide))
  clear h hnm b8
  go_enter Tryz.func152, Tryz.ntmps152
  go_wp2_with fail
  refine HN.out.mono ?_
  rintro e w1 ⟨rfl, rfl⟩
  go_wp2_with fail
  refine wp_loop_rounds 1 ?_
  rw [rounds_succ]
  go_wp2_with fail
  refine HA.out.mono ?_
  rintro e w1 ⟨rfl, rfl⟩
  go_wp2_with fail
  refine HK.out.mono ?_
  rintro e w1 ⟨rfl, rfl⟩
  go_wp2_with fail
  refine bodyPost_ret (by simp [results, Tryz.results152, go_sem]; try rfl) rfl ?_
  exact ⟨_, rfl, Nat.le_refl _, Blk.new _ _ _, (Below.refl _ _).alloc (Nat.le_refl _) _⟩
end Go.Proofs.YtmmijmhdbpldpaaGreatDoor
/- .. as an inline text of its own. -/

namespace Go.Proofs.YtmmijmhdbpldpaaGreatDoor
open Go.RowKit
set_option maxRecDepth 20000 in
theorem own_html (p : Value) (s : ByteArray) (i : Nat) (w : World) (h : OwnAt s i) (hnm : s.extract (i + 1) (i + 8) = ⟨#[111, 119, 110, 45, 116, 97, 103]⟩) : Calls Tryz.prog 103 #[p, .string s, .int .i64 i] w fun e w' => ∃ b, e = .returned (.tuple #[.iface 286 (.pointer (some ⟨b, 0, none⟩)), .int .i64 ((i + 9 : Nat) : Int), .bool true]) ∧ w.heap.size ≤ b ∧ Blk w' b 287 #[.string (s.extract i (i + 9))] ∧ Below w.heap.size w w' := by
  have hb := get_bt s
  have hz := h.size
  have hsm := h.small
  have e1 : (bt s i == 60) = true := by rw [h.b0]; rfl
  have b1 := h.b1
  have f1 : (bt s (i + 1) == 47) = false := by simp; omega
  have f2 : (bt s (i + 1) == 33) = false := by simp; omega
  have f3 : (bt s (i + 1) == 63) = false := by simp; omega
  have HO := hid (own_open p s i w h hnm)
  clear h hnm b1
  go_enter Tryz.func103, Tryz.ntmps103
  go_wp2_with fail
  refine HO.out.mono ?_
  rintro e w1 ⟨b, rfl, q1, q2, q3⟩
  have H := hid (And.intro q1 (And.intro q2 q3))
  clear q1 q2 q3
  go_wp2_with fail
  refine bodyPost_ret (by simp [results, Tryz.results103, go_sem]; try rfl) rfl ?_
  exact ⟨b, rfl, H.out.1, H.out.2.1, H.out.2.2⟩
set_option maxRecDepth 20000 in
theorem own_inl (p : Value) (s : ByteArray) (i : Nat) (w : World) (h : OwnAt s i) (hnm : s.extract (i + 1) (i + 8) = ⟨#[111, 119, 110, 45, 116, 97, 103]⟩) : Calls Tryz.prog 68 #[p, .string s, .int .i64 i] w fun e w' => ∃ b, e = .returned (.tuple #[.iface 286 (.pointer (some ⟨b, 0, none⟩)), .int .i64 i, .int .i64 ((i + 9 : Nat) : Int), .bool true]) ∧ w.heap.size ≤ b ∧ Blk w' b 287 #[.string (s.extract i (i + 9))] ∧ Below w.heap.size w w' := by
  have HU := hid (own_uri s i w h)
  have HM := hid (own_mail s i w h)
  have HO := hid (own_html p s i w h hnm)
  clear h hnm
  go_enter Tryz.func68, Tryz.ntmps68
  go_wp2_with fail
  refine HU.out.mono ?_
  rintro e w1 ⟨rfl, rfl⟩
  go_wp2_with fail
  refine HM.out.mono ?_
  rintro e w1 ⟨rfl, rfl⟩
  go_wp2_with fail
  refine HO.out.mono ?_
  rintro e w1 ⟨b, rfl, q1, q2, q3⟩
  have H := hid (And.intro q1 (And.intro q2 q3))
  clear q1 q2 q3
  go_wp2_with fail
  refine bodyPost_ret (by simp [results, Tryz.results68, go_sem]; try rfl) rfl ?_
  exact ⟨b, rfl, H.out.1, H.out.2.1, H.out.2.2⟩
theorem own_at (A : List UInt8) (hA : A.length ≤ 10000) : OwnAt ⟨(A ++ ownQ).toArray⟩ A.length where
  size := by rw [sz_mk, List.length_append]; rfl
  small := by rw [sz_mk, List.length_append]; show A.length + 9 ≤ 20000; omega
  b0 := lin_one (t := A ++ ownQ) (p := A) (c := 60) (r := [111, 119, 110, 45, 116, 97, 103, 62]) (by simp [ownQ]) _ rfl
  b1 := by
    rw [lin_one (t := A ++ ownQ) (p := A ++ [60]) (c := 111) (r := [119, 110, 45, 116, 97, 103, 62]) (by simp [ownQ]) _ (by simp)]
    decide
  b8 := lin_one (t := A ++ ownQ) (p := A ++ [60, 111, 119, 110, 45, 116, 97, 103]) (c := 62) (r := []) (by simp [ownQ]) _ (by simp)
  chr := fun m h1 h2 => by
    obtain ⟨c, hc, e⟩ := at_mid (t := A ++ ownQ) (p := A ++ [60]) (q := [111, 119, 110, 45, 116, 97, 103]) (r := [62]) (by simp [ownQ]) m (by simp; omega) (by simp; omega)
    rw [e]
    revert hc
    exact (by decide : ∀ c ∈ ([111, 119, 110, 45, 116, 97, 103] : List UInt8), (97 ≤ (c.toNat : Int) ∧ (c.toNat : Int) ≤ 122) ∨ (c.toNat : Int) = 45) c
theorem own_call (g : Nat) (A : List UInt8) (W : World) (hA : A.length ≤ 10000) : Calls Tryz.prog 68 #[.pointer (some ⟨g, 0, none⟩), .string ⟨(A ++ ownQ).toArray⟩, .int .i64 A.length] W fun e w' => ∃ v, e = .returned (.tuple #[v, .int .i64 A.length, .int .i64 ((A.length + ownQ.length : Nat) : Int), .bool true]) ∧ IsItem w' W.heap.size v (tagK ownQ) ∧ Below W.heap.size W w' := by
  have hnm : (ByteArray.mk (A ++ ownQ).toArray).extract (A.length + 1) (A.length + 8) = ⟨#[111, 119, 110, 45, 116, 97, 103]⟩ := ext_mid (p := A ++ [60]) (q := [111, 119, 110, 45, 116, 97, 103]) (r := [62]) (by simp [ownQ]) _ _ (by simp) (by simp)
  have hq : (ByteArray.mk (A ++ ownQ).toArray).extract A.length (A.length + 9) = ⟨ownQ.toArray⟩ := ext_mid (p := A) (q := ownQ) (r := []) (by simp) _ _ rfl rfl
  refine (own_inl (.pointer (some ⟨g, 0, none⟩)) ⟨(A ++ ownQ).toArray⟩ A.length W (own_at A hA) hnm).mono ?_
  rintro e w' ⟨b, rfl, q1, q2, q3⟩
  rw [hq] at q2
  exact ⟨_, rfl, ⟨b, rfl, q2, q1⟩, q3⟩
theorem softK_ok : softK.Ok := ⟨(by decide : (194 : Nat) ≠ 95), (by decide : (194 : Nat) ≠ 132), (by decide : (194 : Nat) ≠ 110), fun _ _ => by kernel_rfl, fun _ _ => by kernel_rfl⟩
theorem tagK_ok (q : List UInt8) : (tagK q).Ok := ⟨(by decide : (287 : Nat) ≠ 95), (by decide : (287 : Nat) ≠ 132), (by decide : (287 : Nat) ≠ 110), fun _ _ => by kernel_rfl, fun _ _ => by kernel_rfl⟩
/-- A text of lines of letters, the tag behind the last or not. -/
theorem inlC_own (o : Opt) (ha : o.auto_ = false) (l0 : List UInt8) (ls : List (List UInt8)) (tg : Bool) (h0 : LinL l0) (hls : ∀ x ∈ ls, LinL x) (hl : (l0 ++ (tailN ls ++ tagT tg ownQ)).length ≤ 10000) : InlC o (l0 ++ (tailN ls ++ tagT tg ownQ)) (l0 ++ (tailN ls ++ tagT tg ownQ)) :=
  inlC_lines o ha ownQ l0 ls tg h0 hls hl rfl ⟨[60, 111, 119, 110, 45, 116, 97, 103], rfl⟩ (fun _ g A W hA => own_call g A W hA) (fun g s i W h1 h2 h3 h4 h5 h6 h7 => parseBreak_soft _ s i W h1 h2 h3 h4 h5 h6 h7) ⟨softK_ok, fun _ _ _ => by kernel_rfl⟩ ⟨tagK_ok _, fun _ _ _ => by kernel_rfl⟩ soft_kprints (tag_kprints ownQ (by decide))
end Go.Proofs.YtmmijmhdbpldpaaGreatDoor
/- The eight openings of blocks of HTML, and how the blocks end. -/




namespace Go.Proofs.YtmmijmhdbpldpaaGreatDoor
open Go.RowKit
def op0 : List UInt8 := [60, 115, 99, 114, 105, 112, 116, 62]
def op1 : List UInt8 := [60, 112, 114, 101, 32, 97, 61, 34, 98, 34, 62]
def op2 : List UInt8 := [60, 33, 45, 45, 32, 97]
def op3 : List UInt8 := [60, 63, 112, 104, 112]
def op4 : List UInt8 := [60, 33, 68, 79, 67, 84, 89, 80, 69, 32, 104, 116, 109, 108]
def op5 : List UInt8 := [60, 33, 91, 67, 68, 65, 84, 65, 91]
def op6 : List UInt8 := [60, 100, 105, 118, 32, 99, 108, 97, 115, 115, 61, 34, 97, 34, 62]
def op7 : List UInt8 := [60, 111, 119, 110, 45, 116, 97, 103, 62]
def cl0 : List UInt8 := [60, 47, 115, 99, 114, 105, 112, 116, 62]
def cl1 : List UInt8 := [97, 60, 47, 80, 82, 69, 62, 32, 98]
def cl2 : List UInt8 := [98, 32, 45, 45, 62, 32, 99]
def cl3 : List UInt8 := [63, 62]
def cl4 : List UInt8 := [62]
def cl5 : List UInt8 := [93, 93, 62, 32, 42, 97, 42]
def cl6 : List UInt8 := [60, 47, 100, 105, 118, 62]
theorem no9 (l : List UInt8) (h : ∀ c ∈ l, c ≠ 9) : ∀ k, bt ⟨l.toArray⟩ k ≠ 9 := fun k => bt_mem l k (fun z => z ≠ 9) (by decide) (fun c hc e => h c hc (UInt8.toNat_inj.1 (by show c.toNat = 9; omega)))
theorem overOp (l : List UInt8) (h0 : bt ⟨l.toArray⟩ 0 = 60) (hl : l.length ≤ 100) (hp : 0 < l.length) (h : ∀ c ∈ l, c ≠ 9) : OverL ⟨l.toArray⟩ where
  size := by rw [sz_mk]; omega
  pos := by rw [sz_mk]; exact hp
  tab := no9 l h
  c := by rw [h0]; decide
  item := by rw [h0]; unfold NoItem; decide
theorem letAt_of (s : ByteArray) (q : Nat) (lo : List UInt8) (h : ∀ m, m < lo.length → ∃ c : UInt8, lo[m]? = some c ∧ 97 ≤ (c.toNat : Int) ∧ (c.toNat : Int) ≤ 122 ∧ (bt s (q + m) = c.toNat ∨ bt s (q + m) + 32 = c.toNat)) : LetAt s q lo := h
theorem starts2 (B g : Nat) (nl : Int) : StartsAs B g ⟨op2.toArray⟩ nl (.str [45, 45, 62]) := fun base pk S W hB hpk hln hadd =>
  startHTML_str2 B base g pk S ⟨op2.toArray⟩ nl W hB hpk hln (by decide) (no9 op2 (by unfold op2; decide)) (by decide) (by decide) (by decide) (by decide) hadd
theorem starts3 (B g : Nat) (nl : Int) : StartsAs B g ⟨op3.toArray⟩ nl (.str [63, 62]) := fun base pk S W hB hpk hln hadd =>
  startHTML_str3 B base g pk S ⟨op3.toArray⟩ nl W hB hpk hln (by decide) (no9 op3 (by unfold op3; decide)) (by decide) (by decide) (by decide) (by decide) (by decide) hadd
theorem starts4 (B g : Nat) (nl : Int) : StartsAs B g ⟨op4.toArray⟩ nl (.str [62]) := fun base pk S W hB hpk hln hadd =>
  startHTML_str4 B base g pk S ⟨op4.toArray⟩ nl W hB hpk hln (by decide) (no9 op4 (by unfold op4; decide)) (by decide) (by decide) (by decide) (by decide) (by decide) (by decide) (by decide) (by decide) (by decide) hadd
theorem starts5 (B g : Nat) (nl : Int) : StartsAs B g ⟨op5.toArray⟩ nl (.str [93, 93, 62]) := fun base pk S W hB hpk hln hadd =>
  startHTML_str5 B base g pk S ⟨op5.toArray⟩ nl W hB hpk hln (by decide) (no9 op5 (by unfold op5; decide)) (by decide) (by decide) (by decide) (by decide) (by decide) (by decide) hadd
theorem tagAt0 : TagAt ⟨op0.toArray⟩ [115, 99, 114, 105, 112, 116] 62 where
  size := by decide
  tab := no9 op0 (by unfold op0; decide)
  b60 := by decide
  len := by decide
  pos := by decide
  chr := by
    intro m hm
    have hm' : m < 6 := hm
    match m, hm' with
    | 0, _ => exact ⟨115, rfl, by decide, by decide, by decide⟩
    | 1, _ => exact ⟨99, rfl, by decide, by decide, by decide⟩
    | 2, _ => exact ⟨114, rfl, by decide, by decide, by decide⟩
    | 3, _ => exact ⟨105, rfl, by decide, by decide, by decide⟩
    | 4, _ => exact ⟨112, rfl, by decide, by decide, by decide⟩
    | 5, _ => exact ⟨116, rfl, by decide, by decide, by decide⟩
  end_ := by decide
  bz := by decide
  p0 := by decide
  p1 := by decide
  p2 := by decide
  p3 := by decide
theorem tagAt1 : TagAt ⟨op1.toArray⟩ [112, 114, 101] 32 where
  size := by decide
  tab := no9 op1 (by unfold op1; decide)
  b60 := by decide
  len := by decide
  pos := by decide
  chr := by
    intro m hm
    have hm' : m < 3 := hm
    match m, hm' with
    | 0, _ => exact ⟨112, rfl, by decide, by decide, by decide⟩
    | 1, _ => exact ⟨114, rfl, by decide, by decide, by decide⟩
    | 2, _ => exact ⟨101, rfl, by decide, by decide, by decide⟩
  end_ := by decide
  bz := by decide
  p0 := by decide
  p1 := by decide
  p2 := by decide
  p3 := by decide
theorem tagAt6 : TagAt ⟨op6.toArray⟩ [100, 105, 118] 32 where
  size := by decide
  tab := no9 op6 (by unfold op6; decide)
  b60 := by decide
  len := by decide
  pos := by decide
  chr := by
    intro m hm
    have hm' : m < 3 := hm
    match m, hm' with
    | 0, _ => exact ⟨100, rfl, by decide, by decide, by decide⟩
    | 1, _ => exact ⟨105, rfl, by decide, by decide, by decide⟩
    | 2, _ => exact ⟨118, rfl, by decide, by decide, by decide⟩
  end_ := by decide
  bz := by decide
  p0 := by decide
  p1 := by decide
  p2 := by decide
  p3 := by decide
theorem tagAt7 : TagAt ⟨op7.toArray⟩ [111, 119, 110] 45 where
  size := by decide
  tab := no9 op7 (by unfold op7; decide)
  b60 := by decide
  len := by decide
  pos := by decide
  chr := by
    intro m hm
    have hm' : m < 3 := hm
    match m, hm' with
    | 0, _ => exact ⟨111, rfl, by decide, by decide, by decide⟩
    | 1, _ => exact ⟨119, rfl, by decide, by decide, by decide⟩
    | 2, _ => exact ⟨110, rfl, by decide, by decide, by decide⟩
  end_ := by decide
  bz := by decide
  p0 := by decide
  p1 := by decide
  p2 := by decide
  p3 := by decide
theorem starts0 (B g : Nat) (nl : Int) : StartsAs B g ⟨op0.toArray⟩ nl .pre := fun base pk S W hB hpk hln hadd =>
  startHTML_pre B base g pk S ⟨op0.toArray⟩ [115, 99, 114, 105, 112, 116] 62 nl W hB hpk hln tagAt0 (.inr ⟨rfl, rfl⟩) (by decide) hadd
theorem starts1 (B g : Nat) (nl : Int) : StartsAs B g ⟨op1.toArray⟩ nl .pre := fun base pk S W hB hpk hln hadd =>
  startHTML_pre B base g pk S ⟨op1.toArray⟩ [112, 114, 101] 32 nl W hB hpk hln tagAt1 (.inl ⟨rfl, rfl⟩) (by decide) hadd
theorem starts6 (B g : Nat) (nl : Int) : StartsAs B g ⟨op6.toArray⟩ nl .non := fun base pk S W hB hpk hln hadd =>
  startHTML_div B base g pk S ⟨op6.toArray⟩ [100, 105, 118] nl W hB hpk hln tagAt6 rfl hadd
theorem ends0 : EndsB .pre cl0 true := fun W =>
  endPre_yes ⟨cl0.toArray⟩ 0 [115, 99, 114, 105, 112, 116] W (by decide) (by decide) (by decide) (by decide) (letAt_of _ _ _ (by
    intro m hm
    have hm' : m < 6 := hm
    match m, hm' with
    | 0, _ => exact ⟨115, rfl, by decide, by decide, by decide⟩
    | 1, _ => exact ⟨99, rfl, by decide, by decide, by decide⟩
    | 2, _ => exact ⟨114, rfl, by decide, by decide, by decide⟩
    | 3, _ => exact ⟨105, rfl, by decide, by decide, by decide⟩
    | 4, _ => exact ⟨112, rfl, by decide, by decide, by decide⟩
    | 5, _ => exact ⟨116, rfl, by decide, by decide, by decide⟩)) (by decide) (by decide) (by decide) (by decide)
theorem ends1 : EndsB .pre cl1 true := fun W =>
  endPre_yes ⟨cl1.toArray⟩ 1 [112, 114, 101] W (by decide) (by decide) (by decide) (by decide) (letAt_of _ _ _ (by
    intro m hm
    have hm' : m < 3 := hm
    match m, hm' with
    | 0, _ => exact ⟨112, rfl, by decide, by decide, by decide⟩
    | 1, _ => exact ⟨114, rfl, by decide, by decide, by decide⟩
    | 2, _ => exact ⟨101, rfl, by decide, by decide, by decide⟩)) (by decide) (by decide) (by decide) (by decide)
end Go.Proofs.YtmmijmhdbpldpaaGreatDoor
/- The tag of another name begins no block while a paragraph is open. -/

namespace Go.Proofs.YtmmijmhdbpldpaaGreatDoor
open Go.RowKit
set_option maxRecDepth 20000 in
set_option maxHeartbeats 1600000 in
theorem newHTML_own (g pb : Nat) (nl : Int) (w : World) (hpar : ∀ W, Below w.heap.size w W → Calls Tryz.prog 93 #[.pointer (some ⟨g, 0, none⟩)] W fun e w' => e = .returned (.pointer (some ⟨pb, 0, none⟩)) ∧ ∃ n, w' = W.drewN n) :
    Calls Tryz.prog 90 #[.pointer (some ⟨g, 0, none⟩), lnV 0 0 ⟨op7.toArray⟩ nl] w fun e w' => e = .returned (.tuple #[lnV 0 0 ⟨op7.toArray⟩ nl, .bool false]) ∧ Below w.heap.size w w' := by
  obtain ⟨s, hs⟩ : ∃ s, s = ByteArray.mk op7.toArray := ⟨_, rfl⟩
  have HT := hid (show TagAt s _ _ from by rw [hs]; exact tagAt7)
  rw [← hs]
  have HP := hid hpar
  clear hpar hs
  go_enter Tryz.func90, Tryz.ntmps90
  go_wp2_with fail
  refine (startHTML_own g _ pb s [111, 119, 110] nl _ (Blk.new' (by simp)) HT.out (fun W hW => HP.out W ?_)).mono ?_
  · exact ((((Below.refl _ _).alloc (Nat.le_refl _) _).alloc (by simp) _).alloc (by simp; omega) _).trans (hW.mono (by simp; omega))
  rintro e w1 ⟨rfl, hb⟩
  have hm2 := Mod.below' (S := fun _ => False) hb
  have hbox : IsLn w1 w.heap.size 0 0 s nl := (Blk.alloc (Blk.alloc (Blk.new' rfl) _) _ : Blk _ w.heap.size 104 (lnC 0 0 s nl)).mod (S := fun _ => False) hm2 (fun h => h)
  have hres : Blk w1 (w.heap.size + 1) 104 #[.int .i64 0, .int .i64 0, .int .i64 0, .string ⟨#[]⟩, .int .u8 0] := (Blk.alloc (Blk.new' (by simp)) _ : Blk _ (w.heap.size + 1) 104 #[.int .i64 0, .int .i64 0, .int .i64 0, .string ⟨#[]⟩, .int .u8 0]).mod (S := fun _ => False) hm2 (fun h => h)
  have hbel : Below w.heap.size w w1 := ((((Below.refl _ _).alloc (Nat.le_refl _) _).alloc (by simp) _).alloc (by simp; omega) _).trans (hb.mono (by simp; omega))
  clear hb hm2
  have c0 := hbox.c0
  have c1 := hbox.c1
  have c2 := hbox.c2
  have c3 := hbox.c3
  have c4 := hbox.c4
  have r0 := hres.at_ 0 rfl
  have r1 := hres.at_ 1 rfl
  have r2 := hres.at_ 2 rfl
  have r3 := hres.at_ 3 rfl
  have r4 := hres.at_ 4 rfl
  have fr := hres.free
  have HR := hid hres
  have HB := hid hbel
  clear hbox hres hbel
  unfold lnV
  go_wp2_with fail
  have hln : Hid (IsLn _ (w.heap.size + 1) 0 0 s nl) := hid (ln_store HR.out 0 0 nl s)
  have hb2 : Hid (Below w.heap.size w _) := hid (((((HB.out.setCell (p := ⟨w.heap.size + 1, 0, none⟩) (by simp) (.int .i64 0)).setCell (p := ⟨w.heap.size + 1, 1, none⟩) (by simp) (.int .i64 (0 : Nat))).setCell (p := ⟨w.heap.size + 1, 2, none⟩) (by simp) (.int .i64 0)).setCell (p := ⟨w.heap.size + 1, 3, none⟩) (by simp) (.string s)).setCell (p := ⟨w.heap.size + 1, 4, none⟩) (by simp) (.int .u8 nl))
  generalize World.setCell _ ⟨w.heap.size + 1, 4, none⟩ _ = wy at hln hb2 ⊢
  clear c0 c1 c2 c3 c4 r0 r1 r2 r3 r4 fr
  have k0 := hln.out.c0
  have k1 := hln.out.c1
  have k2 := hln.out.c2
  have k3 := hln.out.c3
  have k4 := hln.out.c4
  refine bodyPost_ret (by simp [results, Tryz.results90, go_sem, k0, k1, k2, k3, k4]; try rfl) rfl ?_
  exact ⟨rfl, hb2.out⟩
theorem declOwn : DeclH ⟨op7.toArray⟩ := fun B g qb r e0 sl el nl _ w1 hE =>
  newHTML_own g qb nl w1 (fun W hW => para_par B g qb sl el { r with lineDepth := 0 } ([] ++ [e0]) W (hE.1.below hW) (hE.2.1.below hW) (by simp))
/-- A line of letters. -/
theorem linBt {l : List UInt8} (h : LinL l) : ∃ c ∈ abc, bt ⟨l.toArray⟩ 0 = (c.toNat : Int) := by
  obtain ⟨x, p, e, hx⟩ := h.first
  exact ⟨x, hx, lin_one (t := l) (p := []) (c := x) (r := p) (by rw [e]; rfl) 0 rfl⟩
theorem linOver {l : List UInt8} (h : LinL l) (hl : l.length ≤ 100) : OverL ⟨l.toArray⟩ where
  size := by rw [sz_mk]; omega
  pos := by rw [sz_mk]; exact h.pos
  tab := no9 l (fun c hc => by
    have := h.chr c hc
    revert this
    exact (by decide : ∀ c ∈ abc, c ≠ 9) c)
  c := by
    obtain ⟨c, hc, e⟩ := linBt h
    rw [e]
    revert hc
    exact (by decide : ∀ c ∈ abc, (c.toNat : Int) ≠ 32 ∧ (c.toNat : Int) ≠ 62 ∧ (c.toNat : Int) ≠ 35 ∧ (c.toNat : Int) ≠ 45 ∧ (c.toNat : Int) ≠ 61 ∧ (c.toNat : Int) ≠ 42 ∧ (c.toNat : Int) ≠ 95 ∧ (c.toNat : Int) ≠ 126 ∧ (c.toNat : Int) ≠ 96) c
  item := by
    obtain ⟨c, hc, e⟩ := linBt h
    rw [e]
    revert hc
    exact (by unfold NoItem; decide : ∀ c ∈ abc, NoItem (c.toNat : Int)) c
theorem linDecl {l : List UInt8} (h : LinL l) (hl : l.length ≤ 100) : DeclH ⟨l.toArray⟩ := (linOver h hl).declH (by
  obtain ⟨c, hc, e⟩ := linBt h
  rw [e]
  exact (abc_quiet c hc).2.2.2.2)
theorem linPar {l : List UInt8} (h : LinL l) (hl : l.length ≤ 100) : ParLine ⟨l.toArray⟩ := by
  have ho := linOver h hl
  have hsz := ho.size
  obtain ⟨c, hc, e⟩ := linBt h
  have h60 : bt ⟨l.toArray⟩ 0 ≠ 60 := by rw [e]; exact (abc_quiet c hc).2.2.2.2
  obtain ⟨c1, c2, c3, c4, c5, c6, c7, c8, c9⟩ := ho.c
  refine { size := ho.size, pos := ho.pos, tab := ho.tab, q := fun k hk => by rw [reach0 c1 hk]; exact ⟨c2, c3⟩, h32 := c1, hr := ⟨c6, c4, c7⟩, lt_ := h60, fence := c8, tick := c9, item := ?_ }
  intro g b nl w hw
  exact startListItem_no g b 0 0 nl _ w hw (by omega) (Nat.zero_le _) ho.tab (fun k hk => by rw [reach0 c1 hk]; exact ho.item)
theorem linPlain {l : List UInt8} (h : LinL l) (hl : l.length ≤ 100) : 10 ∉ l ∧ 13 ∉ l ∧ 0 ∉ l ∧ l.length ≤ 100 ∧ 0 < l.length := by
  have key : ∀ x, x ∉ abc → x ∉ l := fun x hx hm => hx (h.chr x hm)
  exact ⟨key 10 (by decide), key 13 (by decide), key 0 (by decide), hl, h.pos⟩
theorem linHead (p0 : List UInt8) (P : List (List UInt8)) (h0 : LinL p0) (hl : (joinL (p0 :: P)).length ≤ 10000) : ParaHead (joinL (p0 :: P)) := by
  obtain ⟨x, r, e, hx⟩ := h0.first
  have hp : 0 < (joinL (p0 :: P)).length := by rw [joinL_tail, List.length_append]; have := h0.pos; omega
  refine ⟨hp, by omega, refNo_plain _ hp (by omega) (fun c hc => ?_)⟩
  rw [joinL_tail, e] at hc
  simp at hc
  subst hc
  revert hx
  exact (by decide : ∀ c ∈ abc, c ≠ 32 ∧ c ≠ 9 ∧ c ≠ 10 ∧ c ≠ 91) x
end Go.Proofs.YtmmijmhdbpldpaaGreatDoor
/- The small functions of the law FnInterrupts, and its documents. -/


namespace Go.Proofs.YtmmijmhdbpldpaaGreatDoor
open Go.RowKit
theorem emptyB (s : ByteArray) (h : s.size = 0) : s = ByteArray.mk #[] := by
  apply ByteArray.ext
  exact Array.eq_empty_of_size_eq_zero h
theorem notEmptyB (s : ByteArray) (h : s.size ≠ 0) : s.toList.isEmpty = false := by
  rw [← decide_eq_emptyBytes]
  refine decide_eq_false (fun e => h ?_)
  rw [e]
  rfl
set_option maxRecDepth 20000 in
theorem abc_mem (c : UInt8) (h1 : 97 ≤ c.toNat) (h2 : c.toNat ≤ 122) : c ∈ abc := by
  have h := (by decide : ∀ n, n < 256 → 97 ≤ n → n ≤ 122 → UInt8.ofNat n ∈ abc) c.toNat (UInt8.toNat_lt c) h1 h2
  simpa using h
set_option maxHeartbeats 800000 in
theorem lettered_any (l : List UInt8) (m : Nat) (w : World) (hm : m ≤ 1000) (hs : l.length ≤ 9223372036854775807) :
    Calls Tryz.prog 25 #[.string ⟨l.toArray⟩, .int .i64 m] w (BoolP (LinL l ∧ l.length ≤ m) w) := by
  by_cases h0 : l = []
  · subst h0
    go_enter Tryz.func25, Tryz.ntmps25
    go_wp2
    go_loop [5] (fun t5 => t5 = .int .i64 0) (fun t5 => 0)
    case atStart => rfl
    case round =>
      subst hrel
      go_wp2
      go_ret
      exact BoolP.no _
  · have hp : 0 < l.length := List.length_pos_iff.2 h0
    have hbl := hid (bt_list l)
    have hz : (ByteArray.mk l.toArray).size = l.length := List.size_toArray ..
    have HZ := hid hz
    have hne := notEmptyB (ByteArray.mk l.toArray) (by omega)
    generalize (ByteArray.mk l.toArray) = s at hbl hz HZ hne ⊢
    have hb := get_bt s
    have hs2 : s.size ≤ 9223372036854775807 := by omega
    have hm2 : m ≤ 9223372036854775807 := by omega
    clear hz hm
    go_enter Tryz.func25, Tryz.ntmps25
    go_wp2
    go_loop [5] (fun t5 => ∃ k : Nat, k ≤ s.size ∧ t5 = .int .i64 k ∧ ∀ q, q < k → 97 ≤ bt s q ∧ bt s q ≤ 122) (fun t5 => s.size - (intOf t5).toNat)
    case atStart => exact ⟨0, Nat.zero_le _, rfl, fun q h => absurd h (by omega)⟩
    case round =>
      obtain ⟨k, hk, rfl, hq⟩ := hrel
      have HQ := hid hq
      clear hq
      by_cases hlt : k < s.size
      · by_cases h1 : bt s k < 97
        · go_wp2
          go_ret
          exact BoolP.no _
        by_cases h2 : 122 < bt s k
        · go_wp2
          go_ret
          exact BoolP.no _
        · go_wp2
          go_round
          case rel => exact ⟨k + 1, by omega, by go_num, fun q h => by
            rcases Nat.lt_or_ge q k with h3 | h3
            · exact HQ.out q h3
            · obtain rfl : q = k := by omega
              exact ⟨by omega, by omega⟩⟩
          case measure => simp [intOf]; omega
      · obtain rfl : k = s.size := by omega
        by_cases hsm : s.size ≤ m
        · go_wp2
          go_ret
          refine BoolP.yes _ ⟨⟨hp, fun c hc => ?_⟩, by rw [← HZ.out]; exact hsm⟩
          obtain ⟨q, hq, rfl⟩ := List.getElem_of_mem hc
          have h3 := HQ.out q (by rw [HZ.out]; exact hq)
          rw [hbl.out, List.getElem?_eq_getElem hq] at h3
          have h4 : 97 ≤ ((l[q].toNat : Nat) : Int) ∧ ((l[q].toNat : Nat) : Int) ≤ 122 := h3
          exact abc_mem _ (by omega) (by omega)
        · go_wp2
          go_ret
          exact BoolP.no _
/-- The openings and the ends, by their kinds. -/
def opL : Nat → List UInt8
  | 0 => op0
  | 1 => op1
  | 2 => op2
  | 3 => op3
  | 4 => op4
  | 5 => op5
  | 6 => op6
  | _ => op7
def clL : Nat → List UInt8
  | 0 => cl0
  | 1 => cl1
  | 2 => cl2
  | 3 => cl3
  | 4 => cl4
  | 5 => cl5
  | _ => cl6
def enK : Nat → EndK
  | 0 => .pre
  | 1 => .pre
  | 2 => .str [45, 45, 62]
  | 3 => .str [63, 62]
  | 4 => .str [62]
  | 5 => .str [93, 93, 62]
  | _ => .non
def enB (k : Nat) : Bool := decide (k < 6)
def opB (k : Nat) : ByteArray := ⟨(opL k).toArray⟩
def clB (k : Nat) : ByteArray := ⟨(clL k).toArray⟩
theorem opens_any (k : Nat) (w : World) (hk : k ≤ 6) : Calls Tryz.prog 39 #[.int .i64 k] w fun e w' => e = .returned (.string (opB k)) ∧ w = w' := by
  match k, hk with
  | 0, _ | 1, _ | 2, _ | 3, _ | 4, _ | 5, _ | 6, _ =>
    go_enter Tryz.func39, Tryz.ntmps39
    go_wp2
    go_ret
    exact ⟨rfl, rfl⟩
  | k + 7, h => exact absurd h (by omega)
theorem closes_any (k : Nat) (w : World) (hk : k ≤ 6) : Calls Tryz.prog 40 #[.int .i64 k] w fun e w' => e = .returned (.string (clB k)) ∧ w = w' := by
  match k, hk with
  | 0, _ | 1, _ | 2, _ | 3, _ | 4, _ | 5, _ | 6, _ =>
    go_enter Tryz.func40, Tryz.ntmps40
    go_wp2
    go_ret
    exact ⟨rfl, rfl⟩
  | k + 7, h => exact absurd h (by omega)
theorem ocB_size (k : Nat) (hk : k ≤ 6) : (opB k).size ≤ 20 ∧ (clB k).size ≤ 20 := by
  match k, hk with
  | 0, _ | 1, _ | 2, _ | 3, _ | 4, _ | 5, _ | 6, _ => decide
  | k + 7, h => exact absurd h (by omega)
/-- The opening and the end, a line each. -/
def keptB (k : Nat) : ByteArray := (opB k ++ ByteArray.mk #[10]) ++ clB k
theorem kept_nil (k : Nat) (w : World) (hk : k ≤ 6) : Calls Tryz.prog 24 #[.int .i64 k, .slice none 0 0] w fun e w' => e = .returned (.string (keptB k)) ∧ w = w' := by
  have HO := hid (opens_any k w hk)
  have HC := hid (closes_any k w hk)
  obtain ⟨z1, z2⟩ := ocB_size k hk
  unfold keptB
  generalize opB k = OB at *
  generalize clB k = CB at *
  go_enter Tryz.func24, Tryz.ntmps24
  go_wp2_with fail
  refine HO.out.mono ?_
  rintro e w1 ⟨rfl, rfl⟩
  go_wp2_with fail
  go_loop [5, 13] (fun t5 t13 => t13 = .int .i64 0 ∧ t5 = .string (OB ++ ByteArray.mk #[10])) (fun _ _ => 0)
  case atStart => exact ⟨rfl, rfl⟩
  case round =>
    obtain ⟨rfl, rfl⟩ := hrel
    go_wp2_with fail
    refine HC.out.mono ?_
    rintro e w1 ⟨rfl, rfl⟩
    go_wp2_with fail
    go_ret
    exact ⟨rfl, rfl⟩
/-- Lines of letters, some. -/
structure LinesL (n : Nat) (L : Nat → List UInt8) : Prop where
  pos : 0 < n
  few : n ≤ 10
  lin : ∀ i, i < n → LinL (L i) ∧ (L i).length ≤ 40
def jnB (n : Nat) (L : Nat → List UInt8) : ByteArray := ⟨(joinL (firstL L n)).toArray⟩
theorem firstL_cut (n : Nat) (L : Nat → List UInt8) (h : 0 < n) : firstL L n = L 0 :: (List.range (n - 1)).map (fun i => L (i + 1)) := by
  obtain ⟨m, rfl⟩ : ∃ m, n = m + 1 := ⟨n - 1, by omega⟩
  rw [firstL, List.range_succ_eq_map]
  simp [Function.comp_def]
theorem joinL_len2 (t : List (List UInt8)) (m : Nat) (h : ∀ l ∈ t, l.length ≤ m) : (joinL t).length ≤ t.length * (m + 1) := by
  induction t with
  | nil => simp [joinL]
  | cons a t ih =>
    have ha := h a (List.mem_cons_self ..)
    have h2 := ih (fun l hl => h l (List.mem_cons_of_mem _ hl))
    by_cases ht : t = []
    · subst ht; simp [joinL]; omega
    · rw [joinL_cons _ _ ht, List.length_append, List.length_cons, List.length_cons]
      rw [Nat.add_mul, Nat.one_mul]
      omega
/-- The lines, taken apart. -/
theorem LinesL.cut {n : Nat} {L : Nat → List UInt8} (h : LinesL n L) : ∃ p0 P, firstL L n = p0 :: P ∧ P.length ≤ 9 ∧ (∀ l ∈ p0 :: P, LinL l ∧ l.length ≤ 40) ∧ (joinL (p0 :: P)).length ≤ 410 := by
  have hp := h.pos
  have hf := h.few
  have hall : ∀ l ∈ firstL L n, LinL l ∧ l.length ≤ 40 := fun l hl => by
    obtain ⟨i, hi, rfl⟩ := List.mem_map.1 hl
    exact h.lin i (List.mem_range.1 hi)
  have hj := joinL_len2 (firstL L n) 40 (fun l hl => (hall l hl).2)
  have hlen : (firstL L n).length = n := by simp [firstL]
  rw [hlen] at hj
  rw [firstL_cut n L hp] at hall hj ⊢
  exact ⟨_, _, rfl, by simp; omega, hall, by omega⟩
theorem jnB_size {n : Nat} {L : Nat → List UInt8} (h : LinesL n L) : (jnB n L).size ≤ 410 := by
  obtain ⟨p0, P, e, _, _, hl⟩ := h.cut
  unfold jnB
  rw [e]
  exact bsz hl
theorem hp_doc {p0 : List UInt8} {P : List (List UInt8)} (R : Option (List UInt8 × List UInt8 × EndK × Bool)) (Q : List (List UInt8)) (hl : ∀ l ∈ p0 :: P, LinL l ∧ l.length ≤ 40) (hP : P.length ≤ 9) (hj : (joinL (p0 :: (P ++ Q))).length ≤ 10000) (hQ : Q.length ≤ 1)
    (hq : ∀ q ∈ Q, (OverL ⟨q.toArray⟩ ∧ DeclH ⟨q.toArray⟩) ∧ 10 ∉ q ∧ 13 ∉ q ∧ 0 ∉ q ∧ q.length ≤ 100 ∧ 0 < q.length)
    (hR : ∀ op cl k b, R = some (op, cl, k, b) → OverL ⟨op.toArray⟩ ∧ (∀ B g nl, StartsAs B g ⟨op.toArray⟩ nl k) ∧ EndsB k cl b ∧ (trimL cl).isEmpty = false ∧ (10 ∉ op ∧ 13 ∉ op ∧ 0 ∉ op) ∧ (10 ∉ cl ∧ 13 ∉ cl ∧ 0 ∉ cl) ∧ op.length ≤ 100 ∧ cl.length ≤ 100 ∧ 0 < cl.length) : DocL plainO p0 (P ++ Q) R where
  first := linPar (hl _ (List.mem_cons_self ..)).1 (by have := (hl _ (List.mem_cons_self ..)).2; omega)
  more := fun l h => by
    rcases List.mem_append.1 h with h | h
    · have := hl l (List.mem_cons_of_mem _ h)
      exact ⟨linOver this.1 (by omega), linDecl this.1 (by omega)⟩
    · exact (hq l h).1
  plain := fun l h => by
    rw [← List.cons_append] at h
    rcases List.mem_append.1 h with h | h
    · have := hl l h
      exact linPlain this.1 (by omega)
    · exact (hq l h).2
  few := by rw [List.length_append]; omega
  head := linHead p0 (P ++ Q) (hl _ (List.mem_cons_self ..)).1 hj
  tables := rfl
  tasks := rfl
  html := hR
theorem kind_ok (k : Nat) (hk : k ≤ 6) : OverL ⟨(opL k).toArray⟩ ∧ (∀ B g nl, StartsAs B g ⟨(opL k).toArray⟩ nl (enK k)) ∧ EndsB (enK k) (clL k) (enB k) ∧ (trimL (clL k)).isEmpty = false ∧ (10 ∉ opL k ∧ 13 ∉ opL k ∧ 0 ∉ opL k) ∧ (10 ∉ clL k ∧ 13 ∉ clL k ∧ 0 ∉ clL k) ∧ (opL k).length ≤ 100 ∧ (clL k).length ≤ 100 ∧ 0 < (clL k).length := by
  match k, hk with
  | 0, _ => exact ⟨overOp op0 (by decide) (by decide) (by decide) (by decide), fun B g nl => starts0 B g nl, ends0, by decide, by decide, by decide, by decide, by decide, by decide⟩
  | 1, _ => exact ⟨overOp op1 (by decide) (by decide) (by decide) (by decide), fun B g nl => starts1 B g nl, ends1, by decide, by decide, by decide, by decide, by decide, by decide⟩
  | 2, _ => exact ⟨overOp op2 (by decide) (by decide) (by decide) (by decide), fun B g nl => starts2 B g nl, ⟨by decide, by decide, by decide⟩, by decide, by decide, by decide, by decide, by decide, by decide⟩
  | 3, _ => exact ⟨overOp op3 (by decide) (by decide) (by decide) (by decide), fun B g nl => starts3 B g nl, ⟨by decide, by decide, by decide⟩, by decide, by decide, by decide, by decide, by decide, by decide⟩
  | 4, _ => exact ⟨overOp op4 (by decide) (by decide) (by decide) (by decide), fun B g nl => starts4 B g nl, ⟨by decide, by decide, by decide⟩, by decide, by decide, by decide, by decide, by decide, by decide⟩
  | 5, _ => exact ⟨overOp op5 (by decide) (by decide) (by decide) (by decide), fun B g nl => starts5 B g nl, ⟨by decide, by decide, by decide⟩, by decide, by decide, by decide, by decide, by decide, by decide⟩
  | 6, _ => exact ⟨overOp op6 (by decide) (by decide) (by decide) (by decide), fun B g nl => starts6 B g nl, rfl, by decide, by decide, by decide, by decide, by decide, by decide⟩
  | k + 7, h => exact absurd h (by omega)
theorem joinL_app (p0 : List UInt8) (P Q : List (List UInt8)) : joinL (p0 :: (P ++ Q)) = joinL (p0 :: P) ++ tailN Q := by
  rw [joinL_tail, joinL_tail]
  simp [tailN, List.append_assoc]
/-- A paragraph of lines of letters, a block of HTML behind it. -/
theorem HTML_intK {n k : Nat} {L : Nat → List UInt8} (w : World) (h : LinesL n L) (hk : k ≤ 6) (s : ByteArray) (hs : s = (jnB n L ++ ByteArray.mk #[10]) ++ keptB k) :
    Calls Tryz.prog 11 #[plainO.v, .string s] w fun e w' => e = .returned (.string (((ByteArray.mk #[60, 112, 62] ++ jnB n L) ++ ByteArray.mk #[60, 47, 112, 62, 10] ++ keptB k) ++ ByteArray.mk #[10])) ∧ Below w.heap.size w w' := by
  obtain ⟨p0, P, e, hP, hl, hj⟩ := h.cut
  have hkk := kind_ok k hk
  have hol := hkk.2.2.2.2.2.2.1
  have hcl := hkk.2.2.2.2.2.2.2.1
  have hD : DocL plainO p0 (P ++ []) (some (opL k, clL k, enK k, enB k)) := hp_doc _ [] hl hP (by rw [List.append_nil]; omega) (by simp) (fun q hq => by cases hq) (fun op cl q b e => by
    simp only [Option.some.injEq, Prod.mk.injEq] at e
    obtain ⟨rfl, rfl, rfl, rfl⟩ := e
    exact hkk)
  rw [List.append_nil] at hD
  have htx : joinL (p0 :: (P ++ restL (some (opL k, clL k, enK k, enB k)))) = joinL (p0 :: P) ++ (10 :: (opL k ++ 10 :: clL k)) := by
    rw [joinL_app]
    simp [restL, tailN]
  have hi : InlC plainO (joinL (p0 :: P)) (joinL (p0 :: P)) := by
    have h1 := inlC_own plainO rfl p0 P false (hl _ (List.mem_cons_self ..)).1 (fun x hx => (hl x (List.mem_cons_of_mem _ hx)).1) (by rw [show tagT false ownQ = [] from rfl, List.append_nil, ← joinL_tail]; omega)
    rw [show tagT false ownQ = [] from rfl, List.append_nil, ← joinL_tail] at h1
    exact h1
  have hx := HTML_hp plainO p0 P _ _ w hD (by rw [htx]; simp only [List.length_append, List.length_cons]; omega) hi (by omega) s (by
    rw [hs, htx]
    unfold jnB keptB opB clB
    rw [e, show ByteArray.mk #[10] = ⟨[10].toArray⟩ from rfl]
    simp only [cat_lists]
    simp)
  refine hx.mono ?_
  rintro e1 w1 ⟨rfl, hb⟩
  refine ⟨ret_str ?_, hb⟩
  unfold jnB keptB opB clB
  rw [e, show ByteArray.mk #[10] = ⟨[10].toArray⟩ from rfl, show ByteArray.mk #[60, 112, 62] = ⟨[60, 112, 62].toArray⟩ from rfl, show ByteArray.mk #[60, 47, 112, 62, 10] = ⟨[60, 47, 112, 62, 10].toArray⟩ from rfl]
  simp only [cat_lists]
  simp [docO, paraOut, htmOut]
/-- .. the tag of another name behind it. -/
theorem HTML_int7 {n : Nat} {L : Nat → List UInt8} (w : World) (h : LinesL n L) (s : ByteArray) (hs : s = jnB n L ++ ByteArray.mk #[10, 60, 111, 119, 110, 45, 116, 97, 103, 62]) :
    Calls Tryz.prog 11 #[plainO.v, .string s] w fun e w' => e = .returned (.string ((ByteArray.mk #[60, 112, 62] ++ jnB n L) ++ ByteArray.mk #[10, 60, 111, 119, 110, 45, 116, 97, 103, 62, 60, 47, 112, 62, 10])) ∧ Below w.heap.size w w' := by
  obtain ⟨p0, P, e, hP, hl, hj⟩ := h.cut
  have htx : joinL (p0 :: (P ++ [op7])) = joinL (p0 :: P) ++ (10 :: op7) := by
    rw [joinL_app]
    simp [tailN]
  have hlen : (joinL (p0 :: (P ++ [op7]))).length ≤ 10000 := by rw [htx, List.length_append]; simp [op7]; omega
  have hD : DocL plainO p0 (P ++ [op7]) none := hp_doc none [op7] hl hP hlen (by simp) (fun q hq => by
    simp only [List.mem_cons, List.not_mem_nil, or_false] at hq
    subst hq
    exact ⟨⟨overOp op7 (by decide) (by decide) (by decide) (by decide), declOwn⟩, by decide, by decide, by decide, by decide, by decide⟩) (fun op cl k b e => by cases e)
  have hi : InlC plainO (joinL (p0 :: (P ++ [op7]))) (joinL (p0 :: (P ++ [op7]))) := by
    have e2 : p0 ++ (tailN P ++ tagT true ownQ) = joinL (p0 :: (P ++ [op7])) := by
      rw [htx, joinL_tail, List.append_assoc]
      rfl
    have h1 := inlC_own plainO rfl p0 P true (hl _ (List.mem_cons_self ..)).1 (fun x hx => (hl x (List.mem_cons_of_mem _ hx)).1) (by rw [e2]; exact hlen)
    rw [e2] at h1
    exact h1
  have hx := HTML_hp plainO p0 (P ++ [op7]) none _ w hD (by simpa [restL] using hlen) hi (by omega) s (by
    rw [hs, show P ++ [op7] ++ restL none = P ++ [op7] from by simp [restL], htx]
    unfold jnB op7
    rw [e, show ByteArray.mk #[10, 60, 111, 119, 110, 45, 116, 97, 103, 62] = ⟨[10, 60, 111, 119, 110, 45, 116, 97, 103, 62].toArray⟩ from rfl]
    simp only [cat_lists])
  refine hx.mono ?_
  rintro e1 w1 ⟨rfl, hb⟩
  refine ⟨ret_str ?_, hb⟩
  rw [htx]
  unfold jnB
  rw [e, show ByteArray.mk #[60, 112, 62] = ⟨[60, 112, 62].toArray⟩ from rfl, show ByteArray.mk #[10, 60, 111, 119, 110, 45, 116, 97, 103, 62, 60, 47, 112, 62, 10] = ⟨[10, 60, 111, 119, 110, 45, 116, 97, 103, 62, 60, 47, 112, 62, 10].toArray⟩ from rfl]
  simp only [cat_lists]
  simp [docO, paraOut, op7]
end Go.Proofs.YtmmijmhdbpldpaaGreatDoor
/- The laws' plain options. -/

namespace Go.Proofs.YtmmijmhdbpldpaaGreatDoor
open Go.RowKit
set_option maxRecDepth 20000 in
theorem plain_any (w : World) : Calls Tryz.prog 21 #[] w fun e w' => e = .returned plainO.v ∧ Below w.heap.size w w' := by
  go_enter Tryz.func21, Tryz.ntmps21
  go_wp2
  go_returns
  exact ⟨rfl, (Below.refl _ _).alloc (Nat.le_refl _) _⟩
end Go.Proofs.YtmmijmhdbpldpaaGreatDoor
/- The walk of the law FnInterrupts: for every kind and all lists of lines it returns true. -/


namespace Go.Proofs.YtmmijmhdbpldpaaGreatDoor
open Go.RowKit
theorem jn_any (A : Option Addr) (n c : Nat) (L : Nat → List UInt8) (w : World) (h : LinesL n L) (hA : StrsAt w A n L) :
    Calls Tryz.prog 22 #[.slice A n c, .string ⟨#[10]⟩] w fun e w' => e = .returned (.string (jnB n L)) ∧ w = w' :=
  joined_any A n c L w (by have := h.few; omega) hA (fun i hi => by have := (h.lin i hi).2; omega)
theorem keptB_size (k : Nat) (hk : k ≤ 6) : (keptB k).size ≤ 60 := by
  match k, hk with
  | 0, _ | 1, _ | 2, _ | 3, _ | 4, _ | 5, _ | 6, _ => decide
  | k + 7, h => exact absurd h (by omega)
set_option maxRecDepth 20000 in
set_option maxHeartbeats 4000000 in
theorem law_int (b : Nat) (A : Option Addr) (n c : Nat) (L : Nat → List UInt8) (w : World) (hb : b < 256) (hn : n ≤ 9223372036854775807) (hA : StrsAt w A n L) (hl : ∀ i, i < n → (L i).length ≤ 9223372036854775807) :
    Calls Tryz.prog 8 #[.int .u8 b, .slice A n c] w fun e w' => e = .returned (.bool true) ∧ Below w.heap.size w w' := by
  have HA := hid hA
  have HL := hid hl
  clear hA hl
  go_enter Tryz.func8, Tryz.ntmps8
  go_wp2_with fail
  refine (zzFits2_any A n c L _ hn HA.out HL.out).mono ?_
  rintro e w1 ⟨⟨q, rfl, hq⟩, rfl⟩
  cases q with
  | false =>
    go_wp2_with fail
    go_ret
    exact ⟨rfl, Below.refl _ _⟩
  | true =>
    clear hq
    by_cases h0 : n = 0
    · subst h0
      go_wp2_with fail
      go_ret
      exact ⟨rfl, Below.refl _ _⟩
    by_cases h10 : n ≤ 10
    · have hn0 : ((n : Int) == 0) = false := by simpa using h0
      go_wp2_with fail
      go_loop [23] (fun t23 => ∃ k : Nat, k ≤ n ∧ t23 = .int .i64 k ∧ ∀ i, i < k → LinL (L i) ∧ (L i).length ≤ 40) (fun t23 => n - (intOf t23).toNat)
      case atStart => exact ⟨0, Nat.zero_le _, rfl, fun i h => absurd h (by omega)⟩
      case round =>
        obtain ⟨k, hk, rfl, hpr⟩ := hrel
        have HPR := hid hpr
        clear hpr
        by_cases hlt : k < n
        · obtain ⟨ad, rfl, had, hc⟩ := HA.out k hlt
          have hlk := HL.out k hlt
          go_wp2_with fail
          refine (lettered_any (L k) 40 _ (by decide) hlk).mono ?_
          rintro e w1 ⟨⟨q, rfl, hq⟩, rfl⟩
          have HPB := hid hq
          clear hq
          cases q with
          | false =>
            go_wp2_with fail
            go_ret
            exact ⟨rfl, Below.refl _ _⟩
          | true =>
            have hall : Hid (∀ i, i < k + 1 → LinL (L i) ∧ (L i).length ≤ 40) := hid (fun i hi => by
              rcases Nat.lt_or_ge i k with h | h
              · exact HPR.out i h
              · obtain rfl : i = k := by omega
                exact HPB.out rfl)
            go_wp2_with fail
            go_round
            case rel => exact ⟨k + 1, by omega, by go_num, hall.out⟩
            case measure => simp [intOf]; omega
        · obtain rfl : k = n := by omega
          have HLS := hid (show LinesL k L from ⟨by omega, h10, HPR.out⟩)
          have hz := jnB_size HLS.out
          go_wp2_with fail
          refine (jn_any A k c L _ HLS.out HA.out).mono ?_
          rintro e w1 ⟨rfl, rfl⟩
          go_wp2_with fail
          · refine (plain_any _).mono ?_
            rintro e w1 ⟨rfl, hb1⟩
            have HB1 := hid hb1
            clear hb1
            go_wp2_with fail
            refine (HTML_int7 w1 HLS.out _ rfl).mono ?_
            rintro e w2 ⟨rfl, hb2⟩
            have HB2 := hid (HB1.out.trans (hb2.mono HB1.out.size))
            clear hb2
            go_wp2_with fail
            go_ret
            exact ⟨rfl, HB2.out⟩
          · obtain ⟨m, hm⟩ : ∃ m : Nat, (m : Int) = (b : Int) % 8 := ⟨b % 8, by omega⟩
            have hne := ‹((b : Int) % 8 == 7) = false›
            have hm6 : m ≤ 6 := by
              have : ¬ (b : Int) % 8 = 7 := by simpa using hne
              omega
            rw [← hm]
            rw [← hm] at hne
            clear hm
            have hkz := keptB_size m hm6
            refine (kept_nil m _ hm6).mono ?_
            rintro e w1 ⟨rfl, rfl⟩
            go_wp2_with fail
            refine (plain_any _).mono ?_
            rintro e w1 ⟨rfl, hb1⟩
            have HB1 := hid hb1
            clear hb1
            go_wp2_with fail
            refine (HTML_intK w1 HLS.out hm6 _ rfl).mono ?_
            rintro e w2 ⟨rfl, hb2⟩
            have HB2 := hid (HB1.out.trans (hb2.mono HB1.out.size))
            clear hb2
            go_wp2_with fail
            go_ret
            exact ⟨rfl, HB2.out⟩
    · go_wp2_with fail
      go_ret
      exact ⟨rfl, Below.refl _ _⟩
end Go.Proofs.YtmmijmhdbpldpaaGreatDoor
/- Arguments of a law that are bytes. -/

namespace Go.Proofs.YtmmijmhdbpldpaaGreatDoor
open Go.RowKit Go.ChangeShapes Go.WideShapes Go.ChangeAt
/-- A byte, as a number below 256. -/
theorem open_byte {H : Type} {enc : TypeId × Value → H} {P : Program} {t : TypeId} (ht : P.underlying t = some (.int .u8)) {W : World} {base : Nat} {v : Value} {d : DataW H} {ps : List MemPlace}
    (hval : Value.okWide P W .any base t v) (h : DataW.Trod enc P W 0 (fun _ => true) true t v d ps) : ∃ n : Nat, v = .int .u8 n ∧ n < 256 := by
  obtain ⟨z, rfl, _, _, hw⟩ := open_int ht hval h
  have h3 : 0 ≤ z ∧ z ≤ 255 := by simpa [Lit.wf, IntKind.min, IntKind.max, IntKind.bits, IntKind.signed] using hw
  obtain ⟨n, rfl⟩ := Int.eq_ofNat_of_zero_le h3.1
  exact ⟨n, rfl, by omega⟩
end Go.Proofs.YtmmijmhdbpldpaaGreatDoor
/- Arguments of a law that are lists of strings. -/


namespace Go.Proofs.YtmmijmhdbpldpaaGreatDoor
open Go.ChangeShapes Go.WideShapes Go.ChangeAt Go.RowKit
/-- A slice of strings, nil or not, as lines. -/
theorem open_lines {H : Type} {enc : TypeId × Value → H} {P : Program} {t e : TypeId} (ht : P.underlying t = some (.slice e)) (he : P.underlying e = some .string) (hc : P.cellsOf e = 1) {W : World} {base : Nat} {v : Value} {d : DataW H} {ps : List MemPlace}
    (hval : Value.okWide P W .any base t v) (h : DataW.Trod enc P W 0 (fun _ => true) true t v d ps) : ∃ A n c L, v = .slice A n c ∧ StrsAt W A n L ∧ n ≤ maxLen ∧ ∀ i, i < n → (L i).length ≤ maxLen := by
  obtain ⟨a0, len, cap, rfl⟩ := okWide_slice ht hval
  obtain ⟨fuel, hf⟩ := h
  rcases Go.Deep.open_strs ht he hc hf with ⟨hcs, _⟩ | ⟨a, len', cap', m, S, hcs, _, hl, hm, hmm, _, hcell⟩
  · simp [Value.cells] at hcs
    obtain ⟨rfl, rfl, rfl⟩ := hcs
    exact ⟨none, 0, 0, fun _ => [], rfl, fun i hi => absurd hi (by omega), Nat.zero_le _, fun i hi => absurd hi (by omega)⟩
  · simp [Value.cells] at hcs
    obtain ⟨rfl, rfl, rfl⟩ := hcs
    simp only [if_true] at hmm
    subst hmm
    refine ⟨some a, _, _, fun i => (S i).data.toList, rfl, fun i hi => ?_, by omega, fun i hi => ?_⟩
    · have h1 := (hcell i (by omega)).1
      have hb := World.block_lt_of_cell? W _ h1
      rw [addr_block] at hb
      refine ⟨a, rfl, hb, ?_⟩
      rw [h1]
    · have h2 := (hcell i (by omega)).2
      rw [Go.Lib.size_eq] at h2
      exact h2
end Go.Proofs.YtmmijmhdbpldpaaGreatDoor
/- The witness's world, for every law: the settled world, the eight listed variables holding what their initialisers lay. -/




namespace Go.Proofs.YtmmijmhdbpldpaaGreatDoor
open Go.RowKit Go.ChangeShapes Go.WideShapes Go.ChangeAt Go.Lib
/-- The cells of a datum of plain parts. -/
def flat1 : DataW Unit → List Value
  | .lit (.int k n) => [.int k n]
  | .lit (.string s) => [.string ⟨s.toArray⟩]
  | _ => []
def flat2 : DataW Unit → List Value
  | .agg ds => ds.flatMap flat1
  | d => flat1 d
def flat3 : DataW Unit → List Value
  | .agg ds => ds.flatMap flat2
  | d => flat2 d
noncomputable def laidWorld (os : Os) : World :=
  let N := (World.settled Tryz.prog os).heap.size
  let w0 := World.holding Tryz.prog os ⟨#[
    .cells #[.string ⟨#[105, 110, 118, 97, 108, 105, 100, 32, 115, 121, 110, 116, 97, 120]⟩] 310,
    .cells #[.string ⟨#[118, 97, 108, 117, 101, 32, 111, 117, 116, 32, 111, 102, 32, 114, 97, 110, 103, 101]⟩] 310], #[], []⟩
  let put (h : Array Obj) (g : Nat) (cs : Array Value) : Array Obj := h.modify g fun
    | .cells _ t frozen => .cells cs t frozen
    | o => o
  let h1 := put w0.heap 1 (flat3 Rows.laid_pub_paratext_pub_rscmarkdown_htmlEntities).toArray
  let h2 := put h1 2 (flat3 Rows.laid_unicode_utf8_first).toArray
  let h3 := put h2 3 (flat3 Rows.laid_unicode_utf8_acceptRanges).toArray
  let h4 := put h3 4 #[.iface 308 (.pointer (some ⟨N, 0, none⟩))]
  let h5 := put h4 5 #[.iface 308 (.pointer (some ⟨N + 1, 0, none⟩))]
  let h6 := put h5 6 (flat3 Rows.laid_internal_strconv_uint64pow10).toArray
  let h7 := put h6 7 (flat3 Rows.laid_math_bits_deBruijn32tab).toArray
  let h8 := put h7 8 (flat3 Rows.laid_math_bits_deBruijn64tab).toArray
  { w0 with heap := h8 }
noncomputable abbrev N0 : Nat := (World.settled Tryz.prog default).heap.size
set_option maxRecDepth 1000000 in
theorem laid_met (os : Os) (args : Array Value) : laidMet Tryz.prog Rows.fnAutoRow.laid ((laidWorld os).forCall (fun _ _ => 0) ⟨#[], args, []⟩).memory :=
  (LaidIn.of_run [1, 2, 3, 4, 5, 6, 7, 8, N0, N0 + 1] 8 (by kernel_rfl) (by kernel_rfl) (by kernel_rfl) (by kernel_rfl)).met
end Go.Proofs.YtmmijmhdbpldpaaGreatDoor
/- The closed facts that the row of FnInterrupts asks of the program. -/


namespace Go.Proofs.YtmmijmhdbpldpaaGreatDoor.fnInterrupts
open Go.ChangeShapes Go.WideShapes Go.ChangeAt Go.RowKit
set_option maxHeartbeats 8000000 in
set_option maxRecDepth 100000 in
theorem closed : joinedFacts Tryz.prog 8 Tryz.f8 (OpenSpec.ofChange Rows.fnInterruptsSpec).bare Rows.fnInterruptsRow = true := by
  unfold joinedFacts
  simp only [Bool.and_eq_true]
  repeat' (refine And.intro ?_ ?_)
  all_goals (as_aux_lemma => kernel_rfl)
theorem inst : Tryz.f8.isInstance Tryz.prog Rows.fnInterruptsRow.origin Rows.fnInterruptsRow.targs := of_decide_eq_true (by kernel_rfl)
theorem wrap : Tryz.f8.isWrapper Tryz.prog Rows.fnInterruptsRow.wrapper Rows.fnInterruptsRow.mainSum := by unfold Func.isWrapper; rw [if_neg (of_decide_eq_false (by kernel_rfl))]; exact ⟨rfl, rfl⟩
theorem looks : true = Tryz.prog.looks [] := by kernel_rfl
theorem named : Tryz.prog.funcNamed "pub-paratext/laws.FnInterrupts" = some 8 := by kernel_rfl
theorem noStand0 : Tryz.prog.wantsStandIn 5 = false := by kernel_rfl
theorem read0 : Tryz.prog.readableRec 5 = true := by kernel_rfl
theorem lt0 : 5 < Tryz.prog.types.size := of_decide_eq_true (by kernel_rfl)
theorem noStand1 : Tryz.prog.wantsStandIn 33 = false := by kernel_rfl
theorem read1 : Tryz.prog.readableRec 33 = true := by kernel_rfl
theorem lt1 : 33 < Tryz.prog.types.size := of_decide_eq_true (by kernel_rfl)
theorem cells5 : Tryz.prog.cellsOf 9 = 1 := by kernel_rfl
end Go.Proofs.YtmmijmhdbpldpaaGreatDoor.fnInterrupts
/- The closed facts that the card of FnInterrupts asks of the program. -/


namespace Go.Proofs.YtmmijmhdbpldpaaGreatDoor.fnInterrupts
open Go.ChangeShapes Go.WideShapes Go.ChangeAt Go.RowKit
theorem goes : false = Rows.fnInterruptsRow.goesBy Tryz.pinned.checked.prog := by kernel_rfl
theorem wfBy : Rows.fnInterruptsRow.wfByText (OpenSpec.ofChange Rows.fnInterruptsSpec) = true := by kernel_rfl
theorem mainIs : Tryz.pinned.checked.prog.mainIs = some ((true, "95e68baec09978130d1dc4d5052b3c4126b0390ccf37554e0a187599024dd8dc").1, (true, "95e68baec09978130d1dc4d5052b3c4126b0390ccf37554e0a187599024dd8dc").2.toList) := by kernel_rfl
end Go.Proofs.YtmmijmhdbpldpaaGreatDoor.fnInterrupts
/- PROVED: for every kind and every list of lines of letters, a block of HTML of the first seven kinds ends a paragraph, one of the last kind does not (the law FnInterrupts returns true). -/







namespace Go.Proofs.YtmmijmhdbpldpaaGreatDoor.fnInterrupts
open Go.ChangeShapes Go.WideShapes Go.ChangeAt Go.RowKit
set_option maxRecDepth 100000 in
/-- What the walk gives, for every argument and every world. -/
theorem contract (H : Type) (enc : TypeId × Value → H) (W : World) (base : Nat) (args : Array Value) (ds gs : List (DataW H)) (before : List MemPlace)
    (hval : ∀ (j : Nat) t v, Tryz.f8.params[j]? = some t → args[j]? = some v → Value.okWide Tryz.prog W .any base t v)
    (hW : DataW.Whole enc Tryz.prog Tryz.f8.params.toList Rows.fnInterruptsSpec.vars false W args.toList ds gs before) :
    Calls Tryz.prog 8 args W fun e W' => ∃ v, e = .returned v ∧ Rows.fnInterruptsSpec.post enc Tryz.prog Tryz.f8 false true false false W args v W' := by
  have hW' := hW
  obtain ⟨p, q, hA0, hV, rfl, hfz, hnd⟩ := hW
  have hAk := hA0
  have hA : DataW.TrodAll enc Tryz.prog W 0 (fun _ => true) true Tryz.f8.params.toList args.toList ds p := hA0
  rw [Tryz.params8] at hA hval
  obtain ⟨v0, vs0, d0, ds0, p0, q0, hargs0, rfl, rfl, h0, r0⟩ := trodAll_cons hA
  obtain ⟨v1, vs1, d1, ds1, p1, q1, rfl, rfl, rfl, h1, r1⟩ := trodAll_cons r0
  obtain ⟨rfl, rfl, rfl⟩ := trodAll_nil r1
  obtain rfl : args = #[v0, v1] := by cases args; simp_all
  obtain ⟨rfl, rfl⟩ := trodVars_none hV
  obtain ⟨a0, rfl, ha0⟩ := open_byte Tryz.underlying5 (hval 0 5 v0 rfl rfl) h0
  obtain ⟨A1, n1, c1, L1, rfl, hL1, hn1, hl1⟩ := open_lines Tryz.underlying33 Tryz.underlying9 cells5 (hval 1 33 v1 rfl rfl) h1
  have hlaw := law_int a0 A1 n1 c1 L1 W ha0 (by unfold maxLen at hn1; omega) hL1 (fun i hi => by have := hl1 i hi; unfold maxLen at this; omega)
  refine hlaw.mono fun e W' ⟨he, hg⟩ => ?_
  subst he
  exact ⟨_, rfl, post_true hW' hAk rfl rfl rfl rfl rfl rfl (by rw [Tryz.params8]; intro t ht; simp at ht; rcases ht with rfl | rfl; (· exact ⟨read0, lt0⟩); exact ⟨read1, lt1⟩) hg⟩

theorem reads (os : Os) {H : Type} (enc : TypeId × Value → H) : ∃ places, DataW.whole enc Tryz.prog ((laidWorld os).forCall (fun _ _ => 0) ⟨#[], #[.int .u8 0, .slice none 0 0], []⟩).memory Tryz.f8.params.toList Rows.fnInterruptsSpec.vars false #[Value.int .u8 0, Value.slice none 0 0].toList 8 = some ([.lit (.int .u8 0), .nil], [], places) :=
  ⟨[], by kernel_rfl⟩

set_option maxRecDepth 100000 in
theorem lifted (os : Os) (started : os.Started) (H : Type) (enc : TypeId × Value → H) (F : Stop.Interp) :
    ReturnsInHanded {} Tryz.checked os 8 .any ((OpenSpec.ofChange Rows.fnInterruptsSpec).preRow enc Tryz.prog Tryz.f8 Rows.fnInterruptsRow.domain false Rows.fnInterruptsRow.laid) (((OpenSpec.ofChange Rows.fnInterruptsSpec).at F).post enc Tryz.prog Tryz.f8 false true false false) := by
  obtain ⟨places, hx⟩ := reads os enc
  refine returnsInHanded_of_row (C := Tryz.checked) (s := OpenSpec.ofChange Rows.fnInterruptsSpec) own started (by kernel_rfl) Tryz.func8
    (witness_row_atRef (enc := enc) (C := Tryz.checked) false (laidWorld os) #[.int .u8 0, .slice none 0 0] rfl (by kernel_rfl) (by kernel_rfl) (by kernel_rfl)
      (OpenSpec.preRow_of_cond 8 hx (by kernel_rfl) (fun k hk => by cases hk) (by kernel_rfl) (laid_met os _))) ?_
  intro W base args ds gs before hval hW _ _ _ _ _ _
  exact contract H enc W base args ds gs before hval hW

theorem said : Rows.FnInterruptsSaid :=
  OpenClaim.holds_of_cond 8 Tryz.f8 rfl rfl rfl rfl rfl rfl rfl ⟨rfl, rfl, rfl, rfl, rfl⟩ rfl rfl rfl rfl rfl named Tryz.func8 closed inst wrap
    (fun os started H enc _ F => by rw [OpenClaim.pre_eq_preRow]; exact lifted os started H enc F)

theorem plain (f : FuncId) (fn : Func) (hf : Tryz.pinned.checked.prog.funcNamed "pub-paratext/laws.FnInterrupts" = some f) (hfn : Tryz.pinned.checked.prog.funcs[f]? = some fn) :
    true = Tryz.pinned.checked.prog.looks [] ∧ ∀ (j : Nat) t, fn.params[j]? = some t → Tryz.pinned.checked.prog.wantsStandIn t = false := by
  obtain rfl : f = 8 := Option.some.inj (named.symm.trans hf) |>.symm
  obtain rfl : fn = Tryz.f8 := (Option.some.inj (Tryz.func8.symm.trans hfn)).symm
  refine ⟨looks, fun j t ht => ?_⟩
  rw [Tryz.params8] at ht
  have h : t = 5 ∨ t = 33 := by simpa using Array.mem_of_getElem? ht
  rcases h with rfl | rfl
  · exact noStand0
  · exact noStand1

theorem card : Rows.FnInterruptsCardSaid :=
  Claim7.holds_tied_plain_at .later [] _ _ _ _ said (fun _ h => by cases h) wfBy (fun _ h => by cases h) fnInterrupts_row_tie rfl ⟨rfl, rfl⟩ mainIs rfl plain goes
end Go.Proofs.YtmmijmhdbpldpaaGreatDoor.fnInterrupts
