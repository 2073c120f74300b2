/- Contracts of the small functions on strings: searching for a byte, trimming blanks, blank lines. -/
import Derived.Test.YtmcjhcfhglfmlaaGreatDoorBase
import Derived.Test.YtmcjhcfhglfmlaaGreatDoorProg
namespace Go.Proofs.YtmcjhcfhglfmlaaGreatDoor
open Go.RowKit
set_option maxHeartbeats 400000 in
theorem trimLeft_any (s : ByteArray) (w : World) (hs : s.size ≤ 140737488355328) :
    Calls Tryz.prog 87 #[.string s] w fun e w' => e = .returned (.string ⟨(trimL s.data.toList).toArray⟩) ∧ w = w' := by
  have hb := get_bt s
  have HL := hid (Lib.size_eq s)
  go_enter Tryz.func87, Tryz.ntmps87
  go_wp2
  go_loop [3] (fun i => ∃ k : Nat, k ≤ s.size ∧ i = .int .i64 k ∧ (∀ j c, j < k → s.data.toList[j]? = some c → isST c = true)) (fun i => s.size - (intOf i).toNat)
  case atStart => exact ⟨0, Nat.zero_le _, rfl, fun j c h => absurd h (by omega)⟩
  case round =>
    obtain ⟨k, hk, rfl, hj⟩ := hrel
    have HJ := hid hj
    clear hj
    have step : ∀ c, s.data.toList[k]? = some c → isST c = true → ∀ j d, j < k + 1 → s.data.toList[j]? = some d → isST d = true := by
      intro c hc hst j d hj hd
      rcases Nat.lt_or_ge j k with h1 | h1
      · exact HJ.out j d h1 hd
      · obtain rfl : j = k := by omega
        rw [hc] at hd; cases hd; exact hst
    have ST := hid step
    clear step
    by_cases hlt : k < s.size
    · obtain ⟨c, hc, hbt⟩ := bt_at s hlt
      have HC := hid hc
      have HB := hid hbt
      clear hc hbt
      by_cases h1 : bt s k = 32
      · go_wp2
        go_round
        case rel => exact ⟨k + 1, by omega, by go_num, ST.out c HC.out (isST_of (.inl (HB.out ▸ h1)))⟩
        case measure => simp [intOf]; omega
      · by_cases h2 : bt s k = 9
        · go_wp2
          go_round
          case rel => exact ⟨k + 1, by omega, by go_num, ST.out c HC.out (isST_of (.inr (HB.out ▸ h2)))⟩
          case measure => simp [intOf]; omega
        · have b1 : (bt s k == 32) = false := by simpa using h1
          have b2 : (bt s k == 9) = false := by simpa using h2
          go_wp2
          go_ret
          refine ⟨ret_str ?_, rfl⟩
          rw [extract_end, trimL, drop_of_while isST _ k HJ.out]
          intro d hd
          rw [HC.out] at hd; cases hd
          exact isST_not (HB.out ▸ h1) (HB.out ▸ h2)
    · go_wp2
      go_ret
      refine ⟨ret_str ?_, rfl⟩
      rw [extract_end, trimL, drop_of_while isST _ k HJ.out]
      intro d hd
      rw [List.getElem?_eq_none (by rw [← HL.out]; omega)] at hd
      cases hd

set_option maxHeartbeats 400000 in
theorem isBlank_any (g : Nat) (text : ByteArray) (i : Nat) (w : World) (hi : i ≤ text.size) (hs : text.size ≤ 140737488355328)
    (h1 : w.cell? ⟨g, 1, none⟩ = some (.int .i64 i)) (h3 : w.cell? ⟨g, 3, none⟩ = some (.string text)) :
    Calls Tryz.prog 63 #[.pointer (some ⟨g, 0, none⟩)] w fun e w' => e = .returned (.bool (trimL (text.data.toList.drop i)).isEmpty) ∧ ∃ n, w' = w.drewN n := by
  go_enter Tryz.func63, Tryz.ntmps63
  go_wp2
  go_quiet ((go_at_call 87; exact quiet_left (trimLeft_any _ _ (by simp; omega))))
  go_wp2
  go_ret
  exact ⟨ret_bool (by rw [List.take_of_length_le (by rw [List.length_drop, ← Lib.size_eq]; omega)]), _, rfl⟩
set_option maxHeartbeats 400000 in
theorem zzIndex1 (s : ByteArray) (c : UInt8) (w : World) (hs : s.size ≤ 140737488355328) :
    Calls Tryz.prog 56 #[.string s, .string ⟨#[c]⟩] w fun e w' => e = .returned (.int .i64 (idxB c s.data.toList)) ∧ w = w' := by
  have HP := hid (piece1 s)
  have hL : s.size = s.data.toList.length := Lib.size_eq s
  have HL := hid hL
  clear hL
  go_enter Tryz.func56, Tryz.ntmps56
  go_wp2
  go_loop [5] (fun i => ∃ k : Nat, k ≤ s.size ∧ i = .int .i64 k ∧ (∀ j, j < k → s.data.toList[j]? ≠ some c)) (fun i => s.size - (intOf i).toNat)
  case atStart => exact ⟨0, Nat.zero_le _, rfl, fun j h => absurd h (by omega)⟩
  case round =>
    obtain ⟨k, hk, rfl, hj⟩ := hrel
    have HJ := hid hj
    clear hj
    by_cases hlt : k < s.size
    · go_wp2
      · go_ret
        rename_i h _
        exact ⟨ret_int (idxB_at _ _ _ HJ.out (by rw [HP.out k c hlt] at h; simpa using h)).symm, rfl⟩
      · go_round
        case rel =>
          refine ⟨k + 1, by omega, by go_num, fun j hj => ?_⟩
          rcases Nat.lt_or_ge j k with h1 | h1
          · exact HJ.out j h1
          · obtain rfl : j = k := by omega
            rename_i h
            rw [HP.out j c hlt] at h
            simpa using h
        case measure => simp [intOf]; omega
    · go_wp2
      go_ret
      exact ⟨ret_int (idxB_none _ _ k HJ.out (by rw [← HL.out]; omega)).symm, rfl⟩


set_option maxHeartbeats 400000 in
theorem zzContains1 (s : ByteArray) (c : UInt8) (w : World) (hs : s.size ≤ 140737488355328) :
    Calls Tryz.prog 53 #[.string s, .string ⟨#[c]⟩] w fun e w' => e = .returned (.bool (decide (0 ≤ idxB c s.data.toList))) ∧ w = w' := by
  go_enter Tryz.func53, Tryz.ntmps53
  go_wp2_with (go_at_call 56; refine (zzIndex1 s c _ hs).mono ?_; rintro e w' ⟨rfl, rfl⟩)
  go_ret
  exact ⟨rfl, rfl⟩


end Go.Proofs.YtmcjhcfhglfmlaaGreatDoor
