/- PROVED: for all arguments one to six signs # and a space ahead of an escaped line of at most 2,000 printable bytes are a heading of this level, also with signs # behind it (the law FnHeading returns true). -/
import Derived.Test.YtpojmloeadodhaaGreatDoorCHead09
import Derived.Test.YtpojmloeadodhaaGreatDoorCHead10
import Derived.Test.YtpojmloeadodhaaGreatDoorCHead02
import Derived.Test.YtpojmloeadodhaaGreatDoorCards
import Derived.Test.YtpojmloeadodhaaGreatDoorTie
import Derived.Stop.LaidErr
import Derived.ChangeMaps5
/- The walk of the law FnHeading: for every text it returns true. -/


namespace Go.Proofs.YtpojmloeadodhaaGreatDoor
open Go.RowKit
theorem HTML_head1 (s : ByteArray) (l : List UInt8) (n q : Nat) (w : World) (hs : s = ⟨(headTx l n q).toArray⟩) (h : HeadL l n) (hq : q ≤ 100) :
    Calls Tryz.prog 12 #[.agg #[.bool false, .bool false, .bool false, .bool false, .bool false, .bool false, .bool false, .bool false, .bool false, .bool false], .string s] w fun e w' => e = .returned (.string ⟨(headOut (Lib.decDigits n) (esc l)).toArray⟩) ∧ Below w.heap.size w w' := by
  subst hs
  have hno : ∀ x ∈ headTx l n q, x ≠ 10 ∧ x ≠ 13 ∧ x ≠ 0 := fun x hx => by
    have := headTx_mem h.chr hx
    refine ⟨?_, ?_, ?_⟩ <;> (rintro rfl; simp at this)
  have hI := inlC_head (q := q) h
  rw [← headC_is h] at hI
  refine HTML_head plainO (headTx l n q) _ (esc l) n _ w (headAt h hq) ⟨fun e => (hno _ e).1 rfl, fun e => (hno _ e).2.1 rfl, fun e => (hno _ e).2.2 rfl⟩ hI rfl rfl ?_
  have h1 := esc_len l
  have h2 := h.len
  omega
theorem head_text0 (l : List UInt8) (n : Nat) : ((repF n 35 ++ ByteArray.mk #[32]) ++ ByteArray.mk (slash l).toArray) ++ ByteArray.mk #[] = ⟨(headTx l n 0).toArray⟩ := by
  unfold repF headTx
  rw [show ByteArray.mk #[32] = ⟨[32].toArray⟩ from rfl, show ByteArray.mk #[] = ⟨([] : List UInt8).toArray⟩ from rfl]
  simp only [cat_lists]
  simp [endL]
theorem head_text1 (l : List UInt8) (n q : Nat) (hq : q ≠ 0) : ((repF n 35 ++ ByteArray.mk #[32]) ++ ByteArray.mk (slash l).toArray) ++ (ByteArray.mk #[32] ++ repF q 35) = ⟨(headTx l n q).toArray⟩ := by
  unfold repF headTx
  rw [show ByteArray.mk #[32] = ⟨[32].toArray⟩ from rfl]
  simp only [cat_lists]
  simp [endL, hq]
theorem head_out (D E : List UInt8) : (ByteArray.mk (headOut D E).toArray) = ((((((ByteArray.mk #[60] ++ (ByteArray.mk #[104] ++ ByteArray.mk D.toArray)) ++ ByteArray.mk #[62]) ++ ByteArray.mk E.toArray) ++ ByteArray.mk #[60, 47]) ++ (ByteArray.mk #[104] ++ ByteArray.mk D.toArray)) ++ ByteArray.mk #[62, 10]) := by
  rw [show ByteArray.mk #[60] = ⟨[60].toArray⟩ from rfl, show ByteArray.mk #[104] = ⟨[104].toArray⟩ from rfl, show ByteArray.mk #[62] = ⟨[62].toArray⟩ from rfl, show ByteArray.mk #[60, 47] = ⟨[60, 47].toArray⟩ from rfl, show ByteArray.mk #[62, 10] = ⟨[62, 10].toArray⟩ from rfl]
  simp only [cat_lists]
  simp [headOut]
set_option maxRecDepth 20000 in
set_option maxHeartbeats 4000000 in
theorem law_head (a b : Nat) (l : List UInt8) (w : World) (ha : a < 256) (hb : b < 256) (hl : l.length ≤ 9223372036854775807) :
    Calls Tryz.prog 4 #[.int .u8 a, .int .u8 b, .string ⟨l.toArray⟩] w fun e w' => e = .returned (.bool true) ∧ Below w.heap.size w w' := by
  have hsz : (ByteArray.mk l.toArray).size = l.length := sz_mk l
  by_cases hbig : l.length ≤ 2147483647
  · have HF := hid (full_any l w hl)
    have HA := hid (ascii_any l w hl)
    go_enter Tryz.func4, Tryz.ntmps4
    go_wp2_with fail
    refine HF.out.mono ?_
    rintro e w1 ⟨⟨x, rfl, hx⟩, rfl⟩
    cases x with
    | false =>
      go_wp2_with fail
      go_ret
      exact ⟨rfl, Below.refl _ _⟩
    | true =>
      have HFU := hid (hx rfl)
      clear hx HF
      go_wp2_with fail
      refine HA.out.mono ?_
      rintro e w1 ⟨⟨x, rfl, hx⟩, rfl⟩
      cases x with
      | false =>
        go_wp2_with fail
        go_ret
        exact ⟨rfl, Below.refl _ _⟩
      | true =>
        have HCH := hid (hx rfl)
        clear hx HA
        by_cases h2000 : l.length ≤ 2000
        · have HL := hid (fun n (h1 : 1 ≤ n) (h6 : n ≤ 6) => (show HeadL l n from ⟨h2000, HCH.out, HFU.out.1, HFU.out.2, h1, h6⟩))
          have HSL := hid (fun W => slashed_any l W (by omega))
          have HES := hid (fun W => escapeHTML_any ⟨l.toArray⟩ W (bsz (by omega)))
          have hsl := slash_len l
          have hel := esc_len l
          obtain ⟨q, hq⟩ : ∃ q : Nat, (b : Int) % 8 = q := ⟨b % 8, by omega⟩
          have hq7 : q ≤ 7 := by omega
          have hm6 : (a : Int) % 6 = 0 ∨ (a : Int) % 6 = 1 ∨ (a : Int) % 6 = 2 ∨ (a : Int) % 6 = 3 ∨ (a : Int) % 6 = 4 ∨ (a : Int) % 6 = 5 := by omega
          have hss : (ByteArray.mk (slash l).toArray).size = (slash l).length := sz_mk _
          have hes : (ByteArray.mk (esc l).toArray).size = (esc l).length := sz_mk _
          by_cases h0 : q = 0
          · subst h0
            rcases hm6 with h6 | h6 | h6 | h6 | h6 | h6
            · have hz1 := repF_size 1 35
              have hx6 : (ByteArray.mk #[49, 50, 51, 52, 53, 54]).extract 0 1 = ⟨#[49]⟩ := by decide
              go_wp2_with fail
              refine (plain_any w).mono ?_
              rintro e w3 ⟨rfl, hb3⟩
              have HB3 := hid hb3
              clear hb3
              go_wp2_with fail
              refine (timesF_any 35 1 w3 (by omega)).mono ?_
              rintro e w4 ⟨rfl, rfl⟩
              go_wp2_with fail
              refine (HSL.out w3).mono ?_
              rintro e w5 ⟨rfl, hb5⟩
              have HB5 := hid (HB3.out.trans (hb5.mono HB3.out.size))
              clear hb5
              go_wp2_with fail
              refine (HTML_head1 _ l 1 0 w5 (head_text0 l 1) (HL.out 1 (by omega) (by omega)) (by omega)).mono ?_
              rintro e w6 ⟨rfl, hb6⟩
              have HB6 := hid (HB5.out.trans (hb6.mono HB5.out.size))
              clear hb6
              rw [show Lib.decDigits 1 = [49] from by rw [Lib.decDigits_one (by decide)]; rfl, head_out]
              go_wp2_with fail
              refine (HES.out w6).mono ?_
              rintro e w7 ⟨rfl, rfl⟩
              go_wp2_with fail
              go_ret
              exact ⟨rfl, HB6.out⟩
            · have hz1 := repF_size 2 35
              have hx6 : (ByteArray.mk #[49, 50, 51, 52, 53, 54]).extract 1 2 = ⟨#[50]⟩ := by decide
              go_wp2_with fail
              refine (plain_any w).mono ?_
              rintro e w3 ⟨rfl, hb3⟩
              have HB3 := hid hb3
              clear hb3
              go_wp2_with fail
              refine (timesF_any 35 2 w3 (by omega)).mono ?_
              rintro e w4 ⟨rfl, rfl⟩
              go_wp2_with fail
              refine (HSL.out w3).mono ?_
              rintro e w5 ⟨rfl, hb5⟩
              have HB5 := hid (HB3.out.trans (hb5.mono HB3.out.size))
              clear hb5
              go_wp2_with fail
              refine (HTML_head1 _ l 2 0 w5 (head_text0 l 2) (HL.out 2 (by omega) (by omega)) (by omega)).mono ?_
              rintro e w6 ⟨rfl, hb6⟩
              have HB6 := hid (HB5.out.trans (hb6.mono HB5.out.size))
              clear hb6
              rw [show Lib.decDigits 2 = [50] from by rw [Lib.decDigits_one (by decide)]; rfl, head_out]
              go_wp2_with fail
              refine (HES.out w6).mono ?_
              rintro e w7 ⟨rfl, rfl⟩
              go_wp2_with fail
              go_ret
              exact ⟨rfl, HB6.out⟩
            · have hz1 := repF_size 3 35
              have hx6 : (ByteArray.mk #[49, 50, 51, 52, 53, 54]).extract 2 3 = ⟨#[51]⟩ := by decide
              go_wp2_with fail
              refine (plain_any w).mono ?_
              rintro e w3 ⟨rfl, hb3⟩
              have HB3 := hid hb3
              clear hb3
              go_wp2_with fail
              refine (timesF_any 35 3 w3 (by omega)).mono ?_
              rintro e w4 ⟨rfl, rfl⟩
              go_wp2_with fail
              refine (HSL.out w3).mono ?_
              rintro e w5 ⟨rfl, hb5⟩
              have HB5 := hid (HB3.out.trans (hb5.mono HB3.out.size))
              clear hb5
              go_wp2_with fail
              refine (HTML_head1 _ l 3 0 w5 (head_text0 l 3) (HL.out 3 (by omega) (by omega)) (by omega)).mono ?_
              rintro e w6 ⟨rfl, hb6⟩
              have HB6 := hid (HB5.out.trans (hb6.mono HB5.out.size))
              clear hb6
              rw [show Lib.decDigits 3 = [51] from by rw [Lib.decDigits_one (by decide)]; rfl, head_out]
              go_wp2_with fail
              refine (HES.out w6).mono ?_
              rintro e w7 ⟨rfl, rfl⟩
              go_wp2_with fail
              go_ret
              exact ⟨rfl, HB6.out⟩
            · have hz1 := repF_size 4 35
              have hx6 : (ByteArray.mk #[49, 50, 51, 52, 53, 54]).extract 3 4 = ⟨#[52]⟩ := by decide
              go_wp2_with fail
              refine (plain_any w).mono ?_
              rintro e w3 ⟨rfl, hb3⟩
              have HB3 := hid hb3
              clear hb3
              go_wp2_with fail
              refine (timesF_any 35 4 w3 (by omega)).mono ?_
              rintro e w4 ⟨rfl, rfl⟩
              go_wp2_with fail
              refine (HSL.out w3).mono ?_
              rintro e w5 ⟨rfl, hb5⟩
              have HB5 := hid (HB3.out.trans (hb5.mono HB3.out.size))
              clear hb5
              go_wp2_with fail
              refine (HTML_head1 _ l 4 0 w5 (head_text0 l 4) (HL.out 4 (by omega) (by omega)) (by omega)).mono ?_
              rintro e w6 ⟨rfl, hb6⟩
              have HB6 := hid (HB5.out.trans (hb6.mono HB5.out.size))
              clear hb6
              rw [show Lib.decDigits 4 = [52] from by rw [Lib.decDigits_one (by decide)]; rfl, head_out]
              go_wp2_with fail
              refine (HES.out w6).mono ?_
              rintro e w7 ⟨rfl, rfl⟩
              go_wp2_with fail
              go_ret
              exact ⟨rfl, HB6.out⟩
            · have hz1 := repF_size 5 35
              have hx6 : (ByteArray.mk #[49, 50, 51, 52, 53, 54]).extract 4 5 = ⟨#[53]⟩ := by decide
              go_wp2_with fail
              refine (plain_any w).mono ?_
              rintro e w3 ⟨rfl, hb3⟩
              have HB3 := hid hb3
              clear hb3
              go_wp2_with fail
              refine (timesF_any 35 5 w3 (by omega)).mono ?_
              rintro e w4 ⟨rfl, rfl⟩
              go_wp2_with fail
              refine (HSL.out w3).mono ?_
              rintro e w5 ⟨rfl, hb5⟩
              have HB5 := hid (HB3.out.trans (hb5.mono HB3.out.size))
              clear hb5
              go_wp2_with fail
              refine (HTML_head1 _ l 5 0 w5 (head_text0 l 5) (HL.out 5 (by omega) (by omega)) (by omega)).mono ?_
              rintro e w6 ⟨rfl, hb6⟩
              have HB6 := hid (HB5.out.trans (hb6.mono HB5.out.size))
              clear hb6
              rw [show Lib.decDigits 5 = [53] from by rw [Lib.decDigits_one (by decide)]; rfl, head_out]
              go_wp2_with fail
              refine (HES.out w6).mono ?_
              rintro e w7 ⟨rfl, rfl⟩
              go_wp2_with fail
              go_ret
              exact ⟨rfl, HB6.out⟩
            · have hz1 := repF_size 6 35
              have hx6 : (ByteArray.mk #[49, 50, 51, 52, 53, 54]).extract 5 6 = ⟨#[54]⟩ := by decide
              go_wp2_with fail
              refine (plain_any w).mono ?_
              rintro e w3 ⟨rfl, hb3⟩
              have HB3 := hid hb3
              clear hb3
              go_wp2_with fail
              refine (timesF_any 35 6 w3 (by omega)).mono ?_
              rintro e w4 ⟨rfl, rfl⟩
              go_wp2_with fail
              refine (HSL.out w3).mono ?_
              rintro e w5 ⟨rfl, hb5⟩
              have HB5 := hid (HB3.out.trans (hb5.mono HB3.out.size))
              clear hb5
              go_wp2_with fail
              refine (HTML_head1 _ l 6 0 w5 (head_text0 l 6) (HL.out 6 (by omega) (by omega)) (by omega)).mono ?_
              rintro e w6 ⟨rfl, hb6⟩
              have HB6 := hid (HB5.out.trans (hb6.mono HB5.out.size))
              clear hb6
              rw [show Lib.decDigits 6 = [54] from by rw [Lib.decDigits_one (by decide)]; rfl, head_out]
              go_wp2_with fail
              refine (HES.out w6).mono ?_
              rintro e w7 ⟨rfl, rfl⟩
              go_wp2_with fail
              go_ret
              exact ⟨rfl, HB6.out⟩
          · have hq0 : (0 : Int) < (q : Int) := by omega
            rcases hm6 with h6 | h6 | h6 | h6 | h6 | h6
            · have hz1 := repF_size 1 35
              have hx6 : (ByteArray.mk #[49, 50, 51, 52, 53, 54]).extract 0 1 = ⟨#[49]⟩ := by decide
              go_wp2_with fail
              refine (timesF_any 35 q w (by omega)).mono ?_
              rintro e w2 ⟨rfl, rfl⟩
              have hz2 := repF_size q 35
              go_wp2_with fail
              refine (plain_any w).mono ?_
              rintro e w3 ⟨rfl, hb3⟩
              have HB3 := hid hb3
              clear hb3
              go_wp2_with fail
              refine (timesF_any 35 1 w3 (by omega)).mono ?_
              rintro e w4 ⟨rfl, rfl⟩
              go_wp2_with fail
              refine (HSL.out w3).mono ?_
              rintro e w5 ⟨rfl, hb5⟩
              have HB5 := hid (HB3.out.trans (hb5.mono HB3.out.size))
              clear hb5
              go_wp2_with fail
              refine (HTML_head1 _ l 1 q w5 (head_text1 l 1 q h0) (HL.out 1 (by omega) (by omega)) (by omega)).mono ?_
              rintro e w6 ⟨rfl, hb6⟩
              have HB6 := hid (HB5.out.trans (hb6.mono HB5.out.size))
              clear hb6
              rw [show Lib.decDigits 1 = [49] from by rw [Lib.decDigits_one (by decide)]; rfl, head_out]
              go_wp2_with fail
              refine (HES.out w6).mono ?_
              rintro e w7 ⟨rfl, rfl⟩
              go_wp2_with fail
              go_ret
              exact ⟨rfl, HB6.out⟩
            · have hz1 := repF_size 2 35
              have hx6 : (ByteArray.mk #[49, 50, 51, 52, 53, 54]).extract 1 2 = ⟨#[50]⟩ := by decide
              go_wp2_with fail
              refine (timesF_any 35 q w (by omega)).mono ?_
              rintro e w2 ⟨rfl, rfl⟩
              have hz2 := repF_size q 35
              go_wp2_with fail
              refine (plain_any w).mono ?_
              rintro e w3 ⟨rfl, hb3⟩
              have HB3 := hid hb3
              clear hb3
              go_wp2_with fail
              refine (timesF_any 35 2 w3 (by omega)).mono ?_
              rintro e w4 ⟨rfl, rfl⟩
              go_wp2_with fail
              refine (HSL.out w3).mono ?_
              rintro e w5 ⟨rfl, hb5⟩
              have HB5 := hid (HB3.out.trans (hb5.mono HB3.out.size))
              clear hb5
              go_wp2_with fail
              refine (HTML_head1 _ l 2 q w5 (head_text1 l 2 q h0) (HL.out 2 (by omega) (by omega)) (by omega)).mono ?_
              rintro e w6 ⟨rfl, hb6⟩
              have HB6 := hid (HB5.out.trans (hb6.mono HB5.out.size))
              clear hb6
              rw [show Lib.decDigits 2 = [50] from by rw [Lib.decDigits_one (by decide)]; rfl, head_out]
              go_wp2_with fail
              refine (HES.out w6).mono ?_
              rintro e w7 ⟨rfl, rfl⟩
              go_wp2_with fail
              go_ret
              exact ⟨rfl, HB6.out⟩
            · have hz1 := repF_size 3 35
              have hx6 : (ByteArray.mk #[49, 50, 51, 52, 53, 54]).extract 2 3 = ⟨#[51]⟩ := by decide
              go_wp2_with fail
              refine (timesF_any 35 q w (by omega)).mono ?_
              rintro e w2 ⟨rfl, rfl⟩
              have hz2 := repF_size q 35
              go_wp2_with fail
              refine (plain_any w).mono ?_
              rintro e w3 ⟨rfl, hb3⟩
              have HB3 := hid hb3
              clear hb3
              go_wp2_with fail
              refine (timesF_any 35 3 w3 (by omega)).mono ?_
              rintro e w4 ⟨rfl, rfl⟩
              go_wp2_with fail
              refine (HSL.out w3).mono ?_
              rintro e w5 ⟨rfl, hb5⟩
              have HB5 := hid (HB3.out.trans (hb5.mono HB3.out.size))
              clear hb5
              go_wp2_with fail
              refine (HTML_head1 _ l 3 q w5 (head_text1 l 3 q h0) (HL.out 3 (by omega) (by omega)) (by omega)).mono ?_
              rintro e w6 ⟨rfl, hb6⟩
              have HB6 := hid (HB5.out.trans (hb6.mono HB5.out.size))
              clear hb6
              rw [show Lib.decDigits 3 = [51] from by rw [Lib.decDigits_one (by decide)]; rfl, head_out]
              go_wp2_with fail
              refine (HES.out w6).mono ?_
              rintro e w7 ⟨rfl, rfl⟩
              go_wp2_with fail
              go_ret
              exact ⟨rfl, HB6.out⟩
            · have hz1 := repF_size 4 35
              have hx6 : (ByteArray.mk #[49, 50, 51, 52, 53, 54]).extract 3 4 = ⟨#[52]⟩ := by decide
              go_wp2_with fail
              refine (timesF_any 35 q w (by omega)).mono ?_
              rintro e w2 ⟨rfl, rfl⟩
              have hz2 := repF_size q 35
              go_wp2_with fail
              refine (plain_any w).mono ?_
              rintro e w3 ⟨rfl, hb3⟩
              have HB3 := hid hb3
              clear hb3
              go_wp2_with fail
              refine (timesF_any 35 4 w3 (by omega)).mono ?_
              rintro e w4 ⟨rfl, rfl⟩
              go_wp2_with fail
              refine (HSL.out w3).mono ?_
              rintro e w5 ⟨rfl, hb5⟩
              have HB5 := hid (HB3.out.trans (hb5.mono HB3.out.size))
              clear hb5
              go_wp2_with fail
              refine (HTML_head1 _ l 4 q w5 (head_text1 l 4 q h0) (HL.out 4 (by omega) (by omega)) (by omega)).mono ?_
              rintro e w6 ⟨rfl, hb6⟩
              have HB6 := hid (HB5.out.trans (hb6.mono HB5.out.size))
              clear hb6
              rw [show Lib.decDigits 4 = [52] from by rw [Lib.decDigits_one (by decide)]; rfl, head_out]
              go_wp2_with fail
              refine (HES.out w6).mono ?_
              rintro e w7 ⟨rfl, rfl⟩
              go_wp2_with fail
              go_ret
              exact ⟨rfl, HB6.out⟩
            · have hz1 := repF_size 5 35
              have hx6 : (ByteArray.mk #[49, 50, 51, 52, 53, 54]).extract 4 5 = ⟨#[53]⟩ := by decide
              go_wp2_with fail
              refine (timesF_any 35 q w (by omega)).mono ?_
              rintro e w2 ⟨rfl, rfl⟩
              have hz2 := repF_size q 35
              go_wp2_with fail
              refine (plain_any w).mono ?_
              rintro e w3 ⟨rfl, hb3⟩
              have HB3 := hid hb3
              clear hb3
              go_wp2_with fail
              refine (timesF_any 35 5 w3 (by omega)).mono ?_
              rintro e w4 ⟨rfl, rfl⟩
              go_wp2_with fail
              refine (HSL.out w3).mono ?_
              rintro e w5 ⟨rfl, hb5⟩
              have HB5 := hid (HB3.out.trans (hb5.mono HB3.out.size))
              clear hb5
              go_wp2_with fail
              refine (HTML_head1 _ l 5 q w5 (head_text1 l 5 q h0) (HL.out 5 (by omega) (by omega)) (by omega)).mono ?_
              rintro e w6 ⟨rfl, hb6⟩
              have HB6 := hid (HB5.out.trans (hb6.mono HB5.out.size))
              clear hb6
              rw [show Lib.decDigits 5 = [53] from by rw [Lib.decDigits_one (by decide)]; rfl, head_out]
              go_wp2_with fail
              refine (HES.out w6).mono ?_
              rintro e w7 ⟨rfl, rfl⟩
              go_wp2_with fail
              go_ret
              exact ⟨rfl, HB6.out⟩
            · have hz1 := repF_size 6 35
              have hx6 : (ByteArray.mk #[49, 50, 51, 52, 53, 54]).extract 5 6 = ⟨#[54]⟩ := by decide
              go_wp2_with fail
              refine (timesF_any 35 q w (by omega)).mono ?_
              rintro e w2 ⟨rfl, rfl⟩
              have hz2 := repF_size q 35
              go_wp2_with fail
              refine (plain_any w).mono ?_
              rintro e w3 ⟨rfl, hb3⟩
              have HB3 := hid hb3
              clear hb3
              go_wp2_with fail
              refine (timesF_any 35 6 w3 (by omega)).mono ?_
              rintro e w4 ⟨rfl, rfl⟩
              go_wp2_with fail
              refine (HSL.out w3).mono ?_
              rintro e w5 ⟨rfl, hb5⟩
              have HB5 := hid (HB3.out.trans (hb5.mono HB3.out.size))
              clear hb5
              go_wp2_with fail
              refine (HTML_head1 _ l 6 q w5 (head_text1 l 6 q h0) (HL.out 6 (by omega) (by omega)) (by omega)).mono ?_
              rintro e w6 ⟨rfl, hb6⟩
              have HB6 := hid (HB5.out.trans (hb6.mono HB5.out.size))
              clear hb6
              rw [show Lib.decDigits 6 = [54] from by rw [Lib.decDigits_one (by decide)]; rfl, head_out]
              go_wp2_with fail
              refine (HES.out w6).mono ?_
              rintro e w7 ⟨rfl, rfl⟩
              go_wp2_with fail
              go_ret
              exact ⟨rfl, HB6.out⟩
        · go_wp2_with fail
          go_ret
          exact ⟨rfl, Below.refl _ _⟩
  · go_enter Tryz.func4, Tryz.ntmps4
    go_wp2_with fail
    go_ret
    exact ⟨rfl, Below.refl _ _⟩
end Go.Proofs.YtpojmloeadodhaaGreatDoor
/- Arguments of a law that are bytes. -/

namespace Go.Proofs.YtpojmloeadodhaaGreatDoor
open Go.RowKit Go.ChangeShapes Go.WideShapes Go.ChangeAt
/-- A byte, as a number below 256. -/
theorem open_byte {H : Type} {enc : TypeId × Value → H} {P : Program} {t : TypeId} (ht : P.underlying t = some (.int .u8)) {W : World} {base : Nat} {v : Value} {d : DataW H} {ps : List MemPlace}
    (hval : Value.okWide P W .any base t v) (h : DataW.Trod enc P W 0 (fun _ => true) true t v d ps) : ∃ n : Nat, v = .int .u8 n ∧ n < 256 := by
  obtain ⟨z, rfl, _, _, hw⟩ := open_int ht hval h
  have h3 : 0 ≤ z ∧ z ≤ 255 := by simpa [Lit.wf, IntKind.min, IntKind.max, IntKind.bits, IntKind.signed] using hw
  obtain ⟨n, rfl⟩ := Int.eq_ofNat_of_zero_le h3.1
  exact ⟨n, rfl, by omega⟩
end Go.Proofs.YtpojmloeadodhaaGreatDoor
/- The witness's world, for every law: the settled world, the eight listed variables holding what their initialisers lay. -/




namespace Go.Proofs.YtpojmloeadodhaaGreatDoor
open Go.RowKit Go.ChangeShapes Go.WideShapes Go.ChangeAt Go.Lib
/-- The cells of a datum of plain parts. -/
def flat1 : DataW Unit → List Value
  | .lit (.int k n) => [.int k n]
  | .lit (.string s) => [.string ⟨s.toArray⟩]
  | _ => []
def flat2 : DataW Unit → List Value
  | .agg ds => ds.flatMap flat1
  | d => flat1 d
def flat3 : DataW Unit → List Value
  | .agg ds => ds.flatMap flat2
  | d => flat2 d
noncomputable def laidWorld (os : Os) : World :=
  let N := (World.settled Tryz.prog os).heap.size
  let w0 := World.holding Tryz.prog os ⟨#[
    .cells #[.string ⟨#[105, 110, 118, 97, 108, 105, 100, 32, 115, 121, 110, 116, 97, 120]⟩] 311,
    .cells #[.string ⟨#[118, 97, 108, 117, 101, 32, 111, 117, 116, 32, 111, 102, 32, 114, 97, 110, 103, 101]⟩] 311], #[], []⟩
  let put (h : Array Obj) (g : Nat) (cs : Array Value) : Array Obj := h.modify g fun
    | .cells _ t frozen => .cells cs t frozen
    | o => o
  let h1 := put w0.heap 1 (flat3 Rows.laid_pub_paratext_pub_rscmarkdown_htmlEntities).toArray
  let h2 := put h1 2 (flat3 Rows.laid_unicode_utf8_first).toArray
  let h3 := put h2 3 (flat3 Rows.laid_unicode_utf8_acceptRanges).toArray
  let h4 := put h3 4 #[.iface 309 (.pointer (some ⟨N, 0, none⟩))]
  let h5 := put h4 5 #[.iface 309 (.pointer (some ⟨N + 1, 0, none⟩))]
  let h6 := put h5 6 (flat3 Rows.laid_internal_strconv_uint64pow10).toArray
  let h7 := put h6 7 (flat3 Rows.laid_math_bits_deBruijn32tab).toArray
  let h8 := put h7 8 (flat3 Rows.laid_math_bits_deBruijn64tab).toArray
  { w0 with heap := h8 }
noncomputable abbrev N0 : Nat := (World.settled Tryz.prog default).heap.size
set_option maxRecDepth 1000000 in
theorem laid_met (os : Os) (args : Array Value) : laidMet Tryz.prog Rows.fnKeptRow.laid ((laidWorld os).forCall (fun _ _ => 0) ⟨#[], args, []⟩).memory :=
  (LaidIn.of_run [1, 2, 3, 4, 5, 6, 7, 8, N0, N0 + 1] 8 (by kernel_rfl) (by kernel_rfl) (by kernel_rfl) (by kernel_rfl)).met
end Go.Proofs.YtpojmloeadodhaaGreatDoor
/- The closed facts that the row of FnHeading asks of the program. -/


namespace Go.Proofs.YtpojmloeadodhaaGreatDoor.fnHeading
open Go.ChangeShapes Go.WideShapes Go.ChangeAt Go.RowKit
set_option maxHeartbeats 8000000 in
set_option maxRecDepth 100000 in
theorem closed : joinedFacts Tryz.prog 4 Tryz.f4 (OpenSpec.ofChange Rows.fnHeadingSpec).bare Rows.fnHeadingRow = true := by
  unfold joinedFacts
  simp only [Bool.and_eq_true]
  repeat' (refine And.intro ?_ ?_)
  all_goals (as_aux_lemma => kernel_rfl)
theorem inst : Tryz.f4.isInstance Tryz.prog Rows.fnHeadingRow.origin Rows.fnHeadingRow.targs := of_decide_eq_true (by kernel_rfl)
theorem wrap : Tryz.f4.isWrapper Tryz.prog Rows.fnHeadingRow.wrapper Rows.fnHeadingRow.mainSum := by unfold Func.isWrapper; rw [if_neg (of_decide_eq_false (by kernel_rfl))]; exact ⟨rfl, rfl⟩
theorem looks : true = Tryz.prog.looks [] := by kernel_rfl
theorem named : Tryz.prog.funcNamed "pub-paratext/laws.FnHeading" = some 4 := by kernel_rfl
theorem noStand0 : Tryz.prog.wantsStandIn 5 = false := by kernel_rfl
theorem read0 : Tryz.prog.readableRec 5 = true := by kernel_rfl
theorem lt0 : 5 < Tryz.prog.types.size := of_decide_eq_true (by kernel_rfl)
theorem noStand1 : Tryz.prog.wantsStandIn 9 = false := by kernel_rfl
theorem read1 : Tryz.prog.readableRec 9 = true := by kernel_rfl
theorem lt1 : 9 < Tryz.prog.types.size := of_decide_eq_true (by kernel_rfl)
end Go.Proofs.YtpojmloeadodhaaGreatDoor.fnHeading
/- The closed facts that the card of FnHeading asks of the program. -/


namespace Go.Proofs.YtpojmloeadodhaaGreatDoor.fnHeading
open Go.ChangeShapes Go.WideShapes Go.ChangeAt Go.RowKit
theorem goes : false = Rows.fnHeadingRow.goesBy Tryz.pinned.checked.prog := by kernel_rfl
theorem wfBy : Rows.fnHeadingRow.wfByText (OpenSpec.ofChange Rows.fnHeadingSpec) = true := by kernel_rfl
theorem mainIs : Tryz.pinned.checked.prog.mainIs = some ((true, "1ed0bb808aca9620a07a9dc9eae41fbb3f78e60001960e86506c1a8a781df727").1, (true, "1ed0bb808aca9620a07a9dc9eae41fbb3f78e60001960e86506c1a8a781df727").2.toList) := by kernel_rfl
end Go.Proofs.YtpojmloeadodhaaGreatDoor.fnHeading
/- PROVED: for all arguments one to six signs # and a space ahead of an escaped line of at most 2,000 printable bytes are a heading of this level, also with signs # behind it (the law FnHeading returns true). -/






namespace Go.Proofs.YtpojmloeadodhaaGreatDoor.fnHeading
open Go.ChangeShapes Go.WideShapes Go.ChangeAt Go.RowKit
theorem bytes_back (s : ByteArray) : (⟨s.data.toList.toArray⟩ : ByteArray) = s := by simp
set_option maxRecDepth 100000 in
/-- What the walk gives, for every argument and every world. -/
theorem contract (H : Type) (enc : TypeId × Value → H) (W : World) (base : Nat) (args : Array Value) (ds gs : List (DataW H)) (before : List MemPlace)
    (hval : ∀ (j : Nat) t v, Tryz.f4.params[j]? = some t → args[j]? = some v → Value.okWide Tryz.prog W .any base t v)
    (hW : DataW.Whole enc Tryz.prog Tryz.f4.params.toList Rows.fnHeadingSpec.vars false W args.toList ds gs before) :
    Calls Tryz.prog 4 args W fun e W' => ∃ v, e = .returned v ∧ Rows.fnHeadingSpec.post enc Tryz.prog Tryz.f4 false true false false W args v W' := by
  have hW' := hW
  obtain ⟨p, q, hA0, hV, rfl, hfz, hnd⟩ := hW
  have hAk := hA0
  have hA : DataW.TrodAll enc Tryz.prog W 0 (fun _ => true) true Tryz.f4.params.toList args.toList ds p := hA0
  rw [Tryz.params4] at hA hval
  obtain ⟨v0, vs0, d0, ds0, p0, q0, hargs0, rfl, rfl, h0, r0⟩ := trodAll_cons hA
  obtain ⟨v1, vs1, d1, ds1, p1, q1, rfl, rfl, rfl, h1, r1⟩ := trodAll_cons r0
  obtain ⟨v2, vs2, d2, ds2, p2, q2, rfl, rfl, rfl, h2, r2⟩ := trodAll_cons r1
  obtain ⟨rfl, rfl, rfl⟩ := trodAll_nil r2
  obtain rfl : args = #[v0, v1, v2] := by cases args; simp_all
  obtain ⟨rfl, rfl⟩ := trodVars_none hV
  obtain ⟨a0, rfl, ha0⟩ := open_byte Tryz.underlying5 (hval 0 5 v0 rfl rfl) h0
  obtain ⟨a1, rfl, ha1⟩ := open_byte Tryz.underlying5 (hval 1 5 v1 rfl rfl) h1
  obtain ⟨l2, rfl, _, _, hl2⟩ := Go.ChangeMaps.open_string Tryz.underlying9 (hval 2 9 v2 rfl rfl) h2
  have hll2 : l2.data.toList.length ≤ 9223372036854775807 := by
    have : l2.data.toList.length = l2.size := Array.length_toList
    unfold maxLen at hl2
    omega
  have hlaw := law_head a0 a1 l2.data.toList W ha0 ha1 hll2
  rw [bytes_back] at hlaw
  refine hlaw.mono fun e W' ⟨he, hg⟩ => ?_
  subst he
  exact ⟨_, rfl, post_true hW' hAk rfl rfl rfl rfl rfl rfl (by rw [Tryz.params4]; intro t ht; simp at ht; rcases ht with rfl | rfl; (· exact ⟨read0, lt0⟩); exact ⟨read1, lt1⟩) hg⟩

theorem reads (os : Os) {H : Type} (enc : TypeId × Value → H) : ∃ places, DataW.whole enc Tryz.prog ((laidWorld os).forCall (fun _ _ => 0) ⟨#[], #[.int .u8 0, .int .u8 0, .string ⟨#[]⟩], []⟩).memory Tryz.f4.params.toList Rows.fnHeadingSpec.vars false #[Value.int .u8 0, Value.int .u8 0, Value.string ⟨#[]⟩].toList 8 = some ([.lit (.int .u8 0), .lit (.int .u8 0), .lit (.string [])], [], places) :=
  ⟨[], by kernel_rfl⟩

set_option maxRecDepth 100000 in
theorem lifted (os : Os) (started : os.Started) (H : Type) (enc : TypeId × Value → H) (F : Stop.Interp) :
    ReturnsInHanded {} Tryz.checked os 4 .any ((OpenSpec.ofChange Rows.fnHeadingSpec).preRow enc Tryz.prog Tryz.f4 Rows.fnHeadingRow.domain false Rows.fnHeadingRow.laid) (((OpenSpec.ofChange Rows.fnHeadingSpec).at F).post enc Tryz.prog Tryz.f4 false true false false) := by
  obtain ⟨places, hx⟩ := reads os enc
  refine returnsInHanded_of_row (C := Tryz.checked) (s := OpenSpec.ofChange Rows.fnHeadingSpec) own started (by kernel_rfl) Tryz.func4
    (witness_row_atRef (enc := enc) (C := Tryz.checked) false (laidWorld os) #[.int .u8 0, .int .u8 0, .string ⟨#[]⟩] rfl (by kernel_rfl) (by kernel_rfl) (by kernel_rfl)
      (OpenSpec.preRow_of_cond 8 hx (by kernel_rfl) (fun k hk => by cases hk) (by kernel_rfl) (laid_met os _))) ?_
  intro W base args ds gs before hval hW _ _ _ _ _ _
  exact contract H enc W base args ds gs before hval hW

theorem said : Rows.FnHeadingSaid :=
  OpenClaim.holds_of_cond 4 Tryz.f4 rfl rfl rfl rfl rfl rfl rfl ⟨rfl, rfl, rfl, rfl, rfl⟩ rfl rfl rfl rfl rfl named Tryz.func4 closed inst wrap
    (fun os started H enc _ F => by rw [OpenClaim.pre_eq_preRow]; exact lifted os started H enc F)

theorem plain (f : FuncId) (fn : Func) (hf : Tryz.pinned.checked.prog.funcNamed "pub-paratext/laws.FnHeading" = some f) (hfn : Tryz.pinned.checked.prog.funcs[f]? = some fn) :
    true = Tryz.pinned.checked.prog.looks [] ∧ ∀ (j : Nat) t, fn.params[j]? = some t → Tryz.pinned.checked.prog.wantsStandIn t = false := by
  obtain rfl : f = 4 := Option.some.inj (named.symm.trans hf) |>.symm
  obtain rfl : fn = Tryz.f4 := (Option.some.inj (Tryz.func4.symm.trans hfn)).symm
  refine ⟨looks, fun j t ht => ?_⟩
  rw [Tryz.params4] at ht
  have h : t = 5 ∨ t = 9 := by simpa using Array.mem_of_getElem? ht
  rcases h with rfl | rfl
  · exact noStand0
  · exact noStand1

theorem card : Rows.FnHeadingCardSaid :=
  Claim7.holds_tied_plain_at .later [] _ _ _ _ said (fun _ h => by cases h) wfBy (fun _ h => by cases h) fnHeading_row_tie rfl ⟨rfl, rfl⟩ mainIs rfl plain goes
end Go.Proofs.YtpojmloeadodhaaGreatDoor.fnHeading
