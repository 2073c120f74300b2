/- The walk of the law FnBreak: for all arguments it returns true. -/
import Derived.Test.YtohokfbjmfjjaaaGreatDoorLaw
import Derived.Test.YtohokfbjmfjjaaaGreatDoorBreak
import Derived.OwnWalk
namespace Go.Proofs.YtohokfbjmfjjaaaGreatDoor
open Go.RowKit
/-- A sign, so and so often. -/
def rep (k : Nat) (c : UInt8) : ByteArray := ⟨(List.replicate k c).toArray⟩
theorem rep_zero (c : UInt8) : rep 0 c = ⟨#[]⟩ := rfl
theorem rep_succ (k : Nat) (c : UInt8) : rep k c ++ (ByteArray.mk #[c]) = rep (k + 1) c := by
  unfold rep
  rw [show (ByteArray.mk #[c]) = ⟨[c].toArray⟩ from rfl, cat_lists, List.replicate_succ']
theorem rep_size (k : Nat) (c : UInt8) : (rep k c).size = k := by simp [rep, ByteArray.size]
theorem cat_rep (l : List UInt8) (k : Nat) (c : UInt8) : (ByteArray.mk l.toArray) ++ rep k c = ⟨(l ++ List.replicate k c).toArray⟩ := cat_lists _ _
set_option maxHeartbeats 400000 in
theorem times_any (c : UInt8) (n : Nat) (w : World) (hn : n ≤ 1000) : Calls Tryz.prog 6 #[.string ⟨#[c]⟩, .int .i64 n] w fun e w' => e = .returned (.string (rep n c)) ∧ w = w' := by
  have HC := hid (rep_succ · c)
  go_enter Tryz.func6, Tryz.ntmps6
  go_wp2
  go_loop [5, 7] (fun t5 t7 => ∃ k : Nat, k ≤ n ∧ t7 = .int .i64 k ∧ t5 = .string (rep k c)) (fun _ t7 => n - (intOf t7).toNat)
  case atStart => exact ⟨0, Nat.zero_le _, rfl, rfl⟩
  case round =>
    obtain ⟨k, hk, rfl, rfl⟩ := hrel
    have hz := rep_size k c
    by_cases hlt : k < n
    · go_wp2
      go_round
      case rel => exact ⟨k + 1, by omega, by go_num, by rw [← HC.out]⟩
      case measure => simp [intOf]; omega
    · obtain rfl : k = n := by omega
      go_wp2
      go_ret
      exact ⟨rfl, rfl⟩
theorem times_int (c : UInt8) (z : Int) (w : World) (h0 : 0 ≤ z) (h1 : z ≤ 1000) : Calls Tryz.prog 6 #[.string ⟨#[c]⟩, .int .i64 z] w fun e w' => e = .returned (.string (rep z.toNat c)) ∧ w = w' := by
  obtain ⟨n, rfl⟩ := Int.eq_ofNat_of_zero_le h0
  exact times_any c n w (by omega)
theorem pick3 (z : Nat) : ∃ c : UInt8, (c = 42 ∨ c = 45 ∨ c = 95) ∧ (ByteArray.mk #[42, 45, 95]).extract (z % 3) (z % 3 + 1) = ⟨#[c]⟩ := by
  have h : z % 3 = 0 ∨ z % 3 = 1 ∨ z % 3 = 2 := by omega
  rcases h with h | h | h <;> rw [h]
  · exact ⟨42, .inl rfl, rfl⟩
  · exact ⟨45, .inr (.inl rfl), rfl⟩
  · exact ⟨95, .inr (.inr rfl), rfl⟩
def BrkR (c : UInt8) (j m : Nat) (t8 t31 : Value) : Prop := ∃ (i : Nat) (l : List UInt8), i ≤ m ∧ t31 = .int .i64 i ∧ t8 = .string ⟨l.toArray⟩ ∧ BrkL c j i l
theorem brk_len {c : UInt8} {j i : Nat} {l : List UInt8} (h : BrkL c j i l) : l.length ≤ j + 5 * i := by
  obtain ⟨r, rfl, _, _, _, h4⟩ := h
  simp
  omega
set_option maxRecDepth 20000 in
set_option maxHeartbeats 1600000 in
theorem law_break (A : Option Addr) (l : List UInt8) (which n len cap : Nat) (w : World) (hwh : which < 256) (hn : n < 256) (hl : l.length = len) (hm : len ≤ 9223372036854775807) (hA : BytesAt w A l) :
    Calls Tryz.prog 3 #[.int .u8 which, .int .u8 n, .slice A len cap] w fun e w' => e = .returned (.bool true) ∧ Below w.heap.size w w' := by
  have HA := hid hA
  clear hA
  by_cases h0 : len ≤ 60
  · obtain ⟨c, hc, hx⟩ := pick3 which
    have hc32 : c ≠ 32 := by rcases hc with rfl | rfl | rfl <;> decide
    go_enter Tryz.func3, Tryz.ntmps3
    go_wp2_with fail
    refine (times_int 32 _ _ (by omega) (by omega)).mono ?_
    rintro e w1 ⟨rfl, rfl⟩
    rw [hx]
    have hj : ((which : Int) / 3 % 4).toNat ≤ 3 := by omega
    generalize ((which : Int) / 3 % 4).toNat = j at hj ⊢
    go_wp2_with fail
    go_loop [8, 31] (fun t8 t31 => BrkR c j (3 + n % 40) t8 t31) (fun _ t31 => 3 + n % 40 - (intOf t31).toNat)
    case atStart => exact ⟨0, _, Nat.zero_le _, rfl, rfl, brk_zero c j⟩
    case round =>
      obtain ⟨i, ls, hi, rfl, rfl, hb⟩ := hrel
      have hlen := brk_len hb
      have HB := hid hb
      clear hb
      by_cases hlt : i < 3 + n % 40
      · by_cases hil : i < len
        · obtain ⟨ad, rfl, had, hcell⟩ := HA.out i (by omega)
          generalize l[i]'(by omega) = z at hcell
          go_wp2_with fail
          refine (times_int 32 _ _ (by omega) (by omega)).mono ?_
          rintro e w1 ⟨rfl, rfl⟩
          have hk : ((z.toNat : Int) % 5).toNat ≤ 4 := by omega
          generalize ((z.toNat : Int) % 5).toNat = k at hk ⊢
          have hz := rep_size k 32
          have hq := hid (brk_done (brk_sign HB.out) hc32 k hk)
          have he := hid (show (ByteArray.mk ls.toArray) ++ (ByteArray.mk #[c]) ++ rep k 32 = ⟨(ls ++ [c] ++ List.replicate k 32).toArray⟩ by rw [show (ByteArray.mk ls.toArray) ++ (ByteArray.mk #[c]) = ⟨(ls ++ [c]).toArray⟩ from cat_lists ls [c], cat_rep])
          go_wp2_with fail
          go_round
          case rel => exact ⟨i + 1, _, by omega, by go_num, by rw [he.out], hq.out⟩
          case measure => simp [intOf]; omega
        · have hq := hid (brk_done (brk_sign HB.out) hc32 0 (by omega))
          have he := hid (show (ByteArray.mk ls.toArray) ++ (ByteArray.mk #[c]) = ⟨(ls ++ [c] ++ List.replicate 0 32).toArray⟩ by rw [List.replicate_zero, List.append_nil]; exact cat_lists ls [c])
          go_wp2_with fail
          go_round
          case rel => exact ⟨i + 1, _, by omega, by go_num, by rw [he.out], hq.out⟩
          case measure => simp [intOf]; omega
      · obtain rfl : i = 3 + n % 40 := by omega
        have hline := hid (brk_line HB.out hj hc (by omega))
        go_wp2_with fail
        refine (plain_any _).mono ?_
        rintro e w1 ⟨rfl, hb⟩
        have HB1 := hid hb
        clear hb
        go_wp2_with fail
        refine (HTML_break ls j (c.toNat : Int) _ hline.out (by omega)).mono ?_
        rintro e w2 ⟨rfl, hb2⟩
        have HB2 := hid hb2
        clear hb2
        unfold hrOut
        go_wp2_with fail
        go_ret
        exact ⟨rfl, HB1.out.trans (HB2.out.mono HB1.out.size)⟩
  · by_cases h1 : (len : Int) ≤ 2147483647
    · go_enter Tryz.func3, Tryz.ntmps3
      go_wp2
      go_ret
      exact ⟨rfl, Below.refl _ _⟩
    · go_enter Tryz.func3, Tryz.ntmps3
      go_wp2
      go_ret
      exact ⟨rfl, Below.refl _ _⟩
end Go.Proofs.YtohokfbjmfjjaaaGreatDoor
