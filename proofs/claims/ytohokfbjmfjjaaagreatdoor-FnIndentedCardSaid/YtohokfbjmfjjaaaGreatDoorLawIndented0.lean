/- The small functions that the law FnIndented calls. -/
import Derived.Test.YtohokfbjmfjjaaaGreatDoorLaw
import Derived.Test.YtohokfbjmfjjaaaGreatDoorIndent
import Derived.OwnWalk
namespace Go.Proofs.YtohokfbjmfjjaaaGreatDoor
open Go.RowKit
/-- A slice whose cells are the strings L i. -/
def StrsAt (w : World) (A : Option Addr) (n : Nat) (L : Nat → List UInt8) : Prop :=
  ∀ i, i < n → ∃ ad, A = some ad ∧ ad.block < w.heap.size ∧ w.cell? (ad.add i) = some (.string ⟨(L i).toArray⟩)
theorem StrsAt.below {w w' : World} {A : Option Addr} {n : Nat} {L : Nat → List UInt8} (h : StrsAt w A n L) (hb : Below w.heap.size w w') : StrsAt w' A n L := fun i hi => by
  obtain ⟨ad, e, hlt, hc⟩ := h i hi
  exact ⟨ad, e, Nat.lt_of_lt_of_le hlt hb.size, (hb.cell (p := ad.add i) (by rw [addr_block]; exact hlt)).trans hc⟩
/-- A truth value is returned, which, where it is true, says P; the world is as it was. -/
def BoolP (P : Prop) (w : World) (e : Ending) (w' : World) : Prop := (∃ b, e = .returned (.bool b) ∧ (b = true → P)) ∧ w = w'
theorem BoolP.no {P : Prop} (w : World) : BoolP P w (.returned (.bool false)) w := ⟨⟨_, rfl, fun h => by cases h⟩, rfl⟩
theorem BoolP.yes {P : Prop} (w : World) (h : P) : BoolP P w (.returned (.bool true)) w := ⟨⟨_, rfl, fun _ => h⟩, rfl⟩
set_option maxHeartbeats 800000 in
theorem zzFits2_any (A : Option Addr) (n c : Nat) (L : Nat → List UInt8) (w : World) (hn : n ≤ 9223372036854775807) (hA : StrsAt w A n L) (hl : ∀ i, i < n → (L i).length ≤ 9223372036854775807) :
    Calls Tryz.prog 9 #[.slice A n c] w (BoolP (n ≤ 2147483647) w) := by
  have HA := hid hA
  have HL := hid hl
  clear hA hl
  by_cases h1 : (n : Int) ≤ 2147483647
  · go_enter Tryz.func9, Tryz.ntmps9
    go_wp2
    go_loop [10] (fun t10 => ∃ k : Nat, k ≤ n ∧ t10 = .int .i64 k) (fun t10 => n - (intOf t10).toNat)
    case atStart => exact ⟨0, Nat.zero_le _, rfl⟩
    case round =>
      obtain ⟨k, hk, rfl⟩ := hrel
      by_cases hlt : k < n
      · obtain ⟨ad, rfl, had, hc⟩ := HA.out k hlt
        have hlk := HL.out k hlt
        go_wp2
        · go_ret
          exact BoolP.no _
        · go_round
          case rel => exact ⟨k + 1, by omega, by go_num⟩
          case measure => simp [intOf]; omega
      · obtain rfl : k = n := by omega
        go_wp2
        go_ret
        exact BoolP.yes _ (by omega)
  · go_enter Tryz.func9, Tryz.ntmps9
    go_wp2
    go_ret
    exact BoolP.no _
def PrL (l : List UInt8) : Prop := ∀ c ∈ l, 32 ≤ c.toNat ∧ c.toNat ≤ 126
theorem bt_pos (s : ByteArray) (k : Nat) : 0 ≤ bt s k := by unfold bt; split <;> omega
set_option maxHeartbeats 800000 in
theorem ascii_any (l : List UInt8) (w : World) (hs : l.length ≤ 9223372036854775807) :
    Calls Tryz.prog 10 #[.string ⟨l.toArray⟩, .bool false] w (BoolP (PrL l) w) := by
  have hbl := hid (bt_list l)
  have hz : (ByteArray.mk l.toArray).size = l.length := List.size_toArray ..
  have HZ := hid hz
  generalize (ByteArray.mk l.toArray) = s at hbl hz HZ ⊢
  have hb := get_bt s
  have hs2 : s.size ≤ 9223372036854775807 := by omega
  clear hz
  go_enter Tryz.func10, Tryz.ntmps10
  go_wp2
  go_loop [5] (fun t5 => ∃ k : Nat, k ≤ s.size ∧ t5 = .int .i64 k ∧ ∀ q, q < k → 32 ≤ bt s q ∧ bt s q ≤ 126) (fun t5 => s.size - (intOf t5).toNat)
  case atStart => exact ⟨0, Nat.zero_le _, rfl, fun q h => absurd h (by omega)⟩
  case round =>
    obtain ⟨k, hk, rfl, hq⟩ := hrel
    have HQ := hid hq
    clear hq
    by_cases hlt : k < s.size
    · by_cases h1 : bt s k < 32
      · go_wp2
        go_ret
        exact BoolP.no _
      by_cases h2 : 126 < bt s k
      · go_wp2
        go_ret
        exact BoolP.no _
      · go_wp2
        go_round
        case rel => exact ⟨k + 1, by omega, by go_num, fun q h => by
          rcases Nat.lt_or_ge q k with h3 | h3
          · exact HQ.out q h3
          · obtain rfl : q = k := by omega
            exact ⟨by omega, by omega⟩⟩
        case measure => simp [intOf]; omega
    · obtain rfl : k = s.size := by omega
      go_wp2
      go_ret
      refine BoolP.yes _ (fun c hc => ?_)
      obtain ⟨q, hq, rfl⟩ := List.getElem_of_mem hc
      have h3 := HQ.out q (by rw [HZ.out]; exact hq)
      rw [hbl.out, List.getElem?_eq_getElem hq] at h3
      have h4 : 32 ≤ ((l[q].toNat : Nat) : Int) ∧ ((l[q].toNat : Nat) : Int) ≤ 126 := h3
      omega
set_option maxHeartbeats 800000 in
theorem inked_any (l : List UInt8) (w : World) (hs : l.length ≤ 1000000) :
    Calls Tryz.prog 11 #[.string ⟨l.toArray⟩] w (BoolP (∃ c ∈ l, c ≠ 32) w) := by
  have hbl := hid (bt_list l)
  have hz : (ByteArray.mk l.toArray).size = l.length := List.size_toArray ..
  have HZ := hid hz
  generalize (ByteArray.mk l.toArray) = s at hbl hz HZ ⊢
  have hb := get_bt s
  have hs2 : s.size ≤ 1000000 := by omega
  clear hz
  go_enter Tryz.func11, Tryz.ntmps11
  go_wp2
  go_loop [3] (fun t3 => ∃ k : Nat, k ≤ s.size ∧ t3 = .int .i64 k) (fun t3 => s.size - (intOf t3).toNat)
  case atStart => exact ⟨0, Nat.zero_le _, rfl⟩
  case round =>
    obtain ⟨k, hk, rfl⟩ := hrel
    by_cases hlt : k < s.size
    · by_cases h1 : bt s k = 32
      · go_wp2
        go_round
        case rel => exact ⟨k + 1, by omega, by go_num⟩
        case measure => simp [intOf]; omega
      · have h2 : (bt s k == 32) = false := by simpa using h1
        go_wp2
        go_ret
        refine BoolP.yes _ ?_
        have hq : k < l.length := by rw [← HZ.out]; exact hlt
        rw [hbl.out, List.getElem?_eq_getElem hq] at h1
        exact ⟨l[k], List.getElem_mem hq, fun e => h1 (by show ((l[k].toNat : Nat) : Int) = 32; rw [e]; rfl)⟩
    · go_wp2
      go_ret
      exact BoolP.no _
theorem joinL_snoc (t : List (List UInt8)) (a : List UInt8) (h : t ≠ []) : joinL (t ++ [a]) = joinL t ++ [10] ++ a := by
  induction t with
  | nil => exact absurd rfl h
  | cons b t ih =>
    by_cases ht : t = []
    · subst ht; simp [joinL]
    · rw [List.cons_append, joinL_cons _ _ (by simp), ih ht, joinL_cons _ _ ht]
      simp
def firstL (L : Nat → List UInt8) (k : Nat) : List (List UInt8) := (List.range k).map L
theorem firstL_succ (L : Nat → List UInt8) (k : Nat) : firstL L (k + 1) = firstL L k ++ [L k] := by simp [firstL, List.range_succ]
set_option maxHeartbeats 800000 in
theorem joined_any (A : Option Addr) (n c : Nat) (L : Nat → List UInt8) (w : World) (hn : n ≤ 50) (hA : StrsAt w A n L) (hl : ∀ i, i < n → (L i).length ≤ 204) :
    Calls Tryz.prog 12 #[.slice A n c, .string ⟨#[10]⟩] w fun e w' => e = .returned (.string ⟨(joinL (firstL L n)).toArray⟩) ∧ w = w' := by
  have HA := hid hA
  have HL := hid hl
  clear hA hl
  go_enter Tryz.func12, Tryz.ntmps12
  go_wp2
  go_loop [5, 10] (fun t5 t10 => ∃ (k : Nat) (o : List UInt8), k ≤ n ∧ t10 = .int .i64 k ∧ o = joinL (firstL L k) ∧ t5 = .string ⟨o.toArray⟩ ∧ o.length ≤ 205 * k) (fun _ t10 => n - (intOf t10).toNat)
  case atStart => exact ⟨0, [], Nat.zero_le _, rfl, rfl, rfl, by simp⟩
  case round =>
    obtain ⟨k, o, hk, rfl, ho, rfl, hol⟩ := hrel
    have HO := hid ho
    clear ho
    by_cases hlt : k < n
    · obtain ⟨ad, rfl, had, hc⟩ := HA.out k hlt
      have hlk := HL.out k hlt
      by_cases hk0 : k = 0
      · subst hk0
        have hj := hid (show o ++ L 0 = joinL (firstL L (0 + 1)) by rw [HO.out]; rfl)
        have hcat := hid (cat_lists o (L 0))
        have hc0 : w.cell? ad = some (.string ⟨(L 0).toArray⟩) := by simpa [Addr.add] using hc
        go_wp2
        go_round
        case rel => exact ⟨1, o ++ L 0, by omega, rfl, hj.out, by rw [← hcat.out], by rw [List.length_append]; omega⟩
        case measure => simp [intOf]; omega
      · have hj := hid (show o ++ [10] ++ L k = joinL (firstL L (k + 1)) by rw [HO.out, firstL_succ, joinL_snoc _ _ (by simp [firstL]; omega)])
        have hcat := hid (show (ByteArray.mk o.toArray) ++ (ByteArray.mk #[10]) ++ (ByteArray.mk (L k).toArray) = ⟨(o ++ [10] ++ L k).toArray⟩ by rw [show (ByteArray.mk #[10]) = ⟨[10].toArray⟩ from rfl, cat_lists, cat_lists])
        go_wp2
        go_round
        case rel => exact ⟨k + 1, o ++ [10] ++ L k, by omega, by go_num, hj.out, by rw [← hcat.out], by rw [List.length_append, List.length_append]; simp; omega⟩
        case measure => simp [intOf]; omega
    · obtain rfl : k = n := by omega
      go_wp2
      go_ret
      exact ⟨ret_str (by rw [HO.out]), rfl⟩
end Go.Proofs.YtohokfbjmfjjaaaGreatDoor
