/- Fenced code, printed. -/
import Derived.Test.YtmcjhcfhglfmlaaGreatDoorCode
namespace Go.Proofs.YtmcjhcfhglfmlaaGreatDoor
open Go.RowKit
/-- A block of fenced code: its node, without an info string, lines ls. -/
def IsFCode (w : World) (cb base : Nat) (ls : List (List UInt8)) : Prop :=
  ∃ (sl el : Int) (cf : ByteArray) (v : Sl), 0 < cf.size ∧ Blk w cb 369 #[.int .i64 sl, .int .i64 el, .string cf, .string ⟨#[]⟩, v.v] ∧ w.ownsRow base 9 1 v.v v.n (ls.map lineV)
theorem flat_mem (L : List (List UInt8)) (i : Nat) (h : i < L.length) : (L[i]'h).length ≤ L.flatten.length := by
  induction L generalizing i with
  | nil => simp at h
  | cons a t ih =>
    rw [List.flatten_cons, List.length_append]
    cases i with
    | zero => simp
    | succ i => have := ih i (by simpa using h); simp only [List.getElem_cons_succ]; omega
theorem code_all (L : List (List UInt8)) : (L.flatMap (fun l => esc l ++ [10])).length ≤ 6 * L.flatten.length + L.length := by
  induction L with
  | nil => simp
  | cons a t ih =>
    have := esc_len a
    simp only [List.flatMap_cons, List.flatten_cons, List.length_append, List.length_cons, List.length_nil]
    omega
theorem code_tot (L : List (List UInt8)) (i : Nat) : ((L.take i).flatMap (fun l => esc l ++ [10])).length ≤ 6 * L.flatten.length + L.length := by
  have h1 := code_all (L.take i)
  have h2 : (L.take i).flatten.length ≤ L.flatten.length := by
    conv => rhs; rw [← List.take_append_drop i L, List.flatten_append, List.length_append]
    omega
  have h3 : (L.take i).length ≤ L.length := by rw [List.length_take]; omega
  omega
set_option maxRecDepth 20000 in
set_option maxHeartbeats 4000000 in
theorem codeHTMLF_any (B b cb base : Nat) (L : List (List UInt8)) (w : World) (hcode : IsFCode w cb base L) (hbuf : IsBuf B b [] w) (hB : B ≤ w.heap.size) (hn0 : 0 < L.length) (hn : L.length ≤ 1000) (hlen : L.flatten.length ≤ 10000) :
    Calls Tryz.prog 338 #[.pointer (some ⟨cb, 0, none⟩), .pointer (some ⟨b, 0, none⟩)] w (PrintP B b [] (codeOut L) w) := by
  obtain ⟨sl, el, cf, v, hcf, hblk, hrow⟩ := hcode
  have hcfe : cf.toList.isEmpty = false := by
    rw [Lib.toList_data]
    have := Lib.size_eq cf
    cases hx : cf.data.toList with
    | nil => rw [hx, List.length_nil] at this; omega
    | cons a m => rfl
  have hvn : v.n = L.length := by have := hrow.1; rw [List.length_map] at this; omega
  obtain ⟨ra, rn, rc⟩ := v
  dsimp only at hvn
  subst hvn
  obtain ⟨rb, rcap, hra, hBr, hrlt⟩ := own_form hrow hn0
  simp only [Sl.v, Value.slice.injEq] at hra
  obtain ⟨rfl, _, rfl⟩ := hra
  obtain ⟨bcs, hbb⟩ := hbuf.blk
  have hcb : cb ≠ b := Blk.ne_ hblk hbb (by decide)
  have hrb := own_ne hrow hbb (by decide)
  have HBUF := hid hbuf
  have HBLK := hid hblk
  have HROW := hid hrow
  have HLEN := hid hlen
  clear hbuf hblk hrow hlen hbb
  go_enter Tryz.func338, Tryz.ntmps338
  go_wp2_with fail
  refine (buf_len B b [] _ HBUF.out).mono ?_
  rintro e w1 ⟨rfl, n1, rfl⟩
  go_wp2_with fail
  refine (write_str B b [] _ _ ?_ ?_ ?_).mono ?_
  · exact HBUF.out
  · exact hB
  · show 0 + 10 ≤ 2000000
    omega
  rintro e w2 ⟨rfl, h2, b2, k2⟩
  have hk2 : Kept b w w2 := k2
  have hb2 : Below B w w2 := (below_drewN (Below.refl _ _) n1).trans b2
  have hi2 : IsBuf B b [60, 112, 114, 101, 62, 60, 99, 111, 100, 101] w2 := h2
  have d3 := (HBLK.out.kept hk2 hcb (by decide)).at_ 3 rfl
  have HK2 := hid hk2
  have HB2 := hid hb2
  have HI2 := hid hi2
  clear h2 b2 k2 hk2 hb2 hi2
  go_wp2_with fail
  refine (write_str B b [60, 112, 114, 101, 62, 60, 99, 111, 100, 101] _ _ ?_ ?_ ?_).mono ?_
  · exact HI2.out
  · exact Nat.le_trans hB HB2.out.size
  · show 10 + 1 ≤ 2000000
    omega
  rintro e w3 ⟨rfl, h3, b3, k3⟩
  have hk3 : Kept b w w3 := Lib.OthersKept.trans HK2.out k3
  have hb3 : Below B w w3 := HB2.out.trans b3
  have hi3 : IsBuf B b codeHead w3 := h3
  have hblk3 := HBLK.out.kept hk3 hcb (by decide)
  have hrow3 := own_kept HROW.out hk3 hrb (by decide)
  have d2 : w3.cell? ⟨cb, 2, none⟩ = some (.string cf) := hblk3.at_ 2 rfl
  have d4 : w3.cell? ⟨cb, 4, none⟩ = some (.slice (some ⟨rb, 0, none⟩) L.length rc) := hblk3.at_ 4 rfl
  have HK3 := hid hk3
  have HB3 := hid hb3
  have HI3 := hid hi3
  have HBK3 := hid hblk3
  have HRW3 := hid hrow3
  clear h3 b3 k3 hk3 hb3 hi3 hblk3 hrow3
  go_wp2_with fail
  have hkA : Hid (Kept b w w3) := HK3
  have hbA : Hid (Below B w w3) := HB3
  have hiA : Hid (IsBuf B b codeHead w3) := HI3
  have hrA : Hid (w3.ownsRow base 9 1 (.slice (some ⟨rb, 0, none⟩) L.length rc) L.length (L.map lineV)) := HRW3
  clear d2 d4 HK3 HB3 HI3 HBK3 HRW3
  generalize w3 = wa at hkA hbA hiA hrA ⊢
  go_loopw [101] (fun t wr => CodeR B b codeHead L.length L wa t wr) (fun t _ => L.length - (intOf t).toNat)
  case atStart => exact ⟨0, Nat.zero_le _, rfl, by simpa using hiA.out, Below.refl _ _, Lib.OthersKept.refl _ _ _⟩
  case round =>
    obtain ⟨i, hi, rfl, hbf, hbel, hk⟩ := hrel
    by_cases hlt : i < L.length
    · have hy : i < L.length := hlt
      have hrw := own_kept hrA.out hk hrb (by decide)
      have r0 : wr.cell? ⟨rb, i, none⟩ = some (lineV (L[i]'hy)) := by
        rw [World.ownsRow.cellAt hrw _ (by omega), List.getElem?_map, List.getElem?_eq_getElem hy]
        rfl
      have hlen := Nat.le_trans (flat_mem L i hy) HLEN.out
      have htk := hid (show (L.take (i + 1)).flatMap (fun l => esc l ++ [10]) = (L.take i).flatMap (fun l => esc l ++ [10]) ++ (esc (L[i]'hy) ++ [10]) by rw [List.take_add_one, List.getElem?_eq_getElem hy, List.flatMap_append]; simp only [Option.toList_some, List.flatMap_cons, List.flatMap_nil, List.append_nil])
      have hpl := hid (code_tot L i)
      generalize L[i]'hy = l at r0 hlen htk
      generalize (L.take i).flatMap (fun l => esc l ++ [10]) = pre at hbf htk hpl
      have hpl2 := hpl.out
      have hlt2 := HLEN.out
      unfold lineV at r0
      have HBF := hid hbf
      have HBL := hid hbel
      have HK := hid hk
      clear hbf hbel hk hrw
      go_wp2_with fail
      refine (htmlEscaper_any _).mono ?_
      rintro e w4 ⟨n4, rfl, hn4, hp4, hb4⟩
      have hi4 := hid (IsBuf.old HBF.out hb4)
      have hk4 := hid (Lib.OthersKept.below HK.out hb4)
      have hB4 := hid (HBL.out.trans (hb4.mono (Nat.le_trans (Nat.le_trans hB hbA.out.size) HBL.out.size)))
      have HP4 := hid hp4
      clear hp4 hb4 r0
      go_wp2_with fail
      refine (replace_any n4 _ _ HP4.out (bsz (by omega))).mono ?_
      rintro e w5 ⟨rfl, hb5⟩
      have hi5 := hid (IsBuf.old hi4.out hb5)
      have hk5 := hid (Lib.OthersKept.below hk4.out hb5)
      have hB5 := hid (hB4.out.trans (hb5.mono (Nat.le_trans (Nat.le_trans hB hbA.out.size) hB4.out.size)))
      clear hb5
      have hel := esc_len l
      have hsz5 : B ≤ w5.heap.size := Nat.le_trans (Nat.le_trans hB hbA.out.size) hB5.out.size
      go_wp2_with fail
      refine (write_str B b (codeHead ++ pre) ⟨(esc l).toArray⟩ _ ?_ ?_ ?_).mono ?_
      · exact hi5.out
      · exact hsz5
      · rw [List.length_append]
        show 11 + pre.length + (esc l).toArray.size ≤ 2000000
        rw [List.size_toArray]
        omega
      rintro e w6 ⟨rfl, h6, b6, k6⟩
      have hi6 := hid (show IsBuf B b (codeHead ++ pre ++ esc l) w6 from h6)
      have hB6 := hid (hB5.out.trans b6)
      have hk6 := hid (Lib.OthersKept.trans hk5.out k6)
      clear h6 b6 k6
      go_wp2_with fail
      refine (write_str B b (codeHead ++ pre ++ esc l) ⟨#[10]⟩ _ ?_ ?_ ?_).mono ?_
      · exact hi6.out
      · exact Nat.le_trans (Nat.le_trans hB hbA.out.size) hB6.out.size
      · rw [List.length_append, List.length_append]
        show 11 + pre.length + (esc l).length + 1 ≤ 2000000
        omega
      rintro e w7 ⟨rfl, h7, b7, k7⟩
      have hi7 := hid (show IsBuf B b (codeHead ++ pre ++ esc l ++ [10]) w7 from h7)
      have hB7 := hid (hB6.out.trans b7)
      have hk7 := hid (Lib.OthersKept.trans hk6.out k7)
      clear h7 b7 k7
      go_wp2_with fail
      go_roundw
      case rel => exact ⟨i + 1, by omega, by go_num, by rw [htk.out, ← List.append_assoc, ← List.append_assoc]; exact hi7.out, hB7.out, hk7.out⟩
      case measure => simp [intOf]; omega
    · obtain rfl : i = L.length := by omega
      have htk : L.take L.length = L := List.take_of_length_le (Nat.le_refl _)
      have hpl := hid (code_tot L L.length)
      rw [htk] at hbf hpl
      have HBF := hid hbf
      have HBL := hid hbel
      have HK := hid hk
      clear hbf hbel hk htk
      go_wp2_with fail
      refine (write_str B b (codeHead ++ L.flatMap (fun l => esc l ++ [10])) ⟨#[60, 47, 99, 111, 100, 101, 62, 60, 47, 112, 114, 101, 62, 10]⟩ _ ?_ ?_ ?_).mono ?_
      · exact HBF.out
      · exact Nat.le_trans (Nat.le_trans hB hbA.out.size) HBL.out.size
      · have := hpl.out
        have := HLEN.out
        rw [List.length_append]
        show 11 + _ + 14 ≤ 2000000
        omega
      rintro e w7 ⟨rfl, h7, b7, k7⟩
      have hi7 := hid (show IsBuf B b (codeOut L) w7 from h7)
      have hB7 := hid ((hbA.out.trans HBL.out).trans b7)
      have hk7 := hid (Lib.OthersKept.trans (Lib.OthersKept.trans hkA.out HK.out) k7)
      clear h7 b7 k7
      go_wp2_with fail
      go_end0
      exact ⟨rfl, hi7.out, hB7.out, hk7.out⟩
end Go.Proofs.YtmcjhcfhglfmlaaGreatDoor
