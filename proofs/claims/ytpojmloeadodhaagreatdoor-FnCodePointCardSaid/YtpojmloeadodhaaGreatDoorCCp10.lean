/- PROVED: a numeric reference, decimal or hexadecimal, to a character is this character, or the replacement character where there is none (the law FnCodePoint returns true). -/
import Derived.Test.YtpojmloeadodhaaGreatDoorCCp02
import Derived.Test.YtpojmloeadodhaaGreatDoorCCp09
import Derived.Test.YtpojmloeadodhaaGreatDoorCards
import Derived.Test.YtpojmloeadodhaaGreatDoorTie
import Derived.Stop.LaidErr
import Derived.ChangeMaps5
/- The walk of the law FnCodePoint: for every number it returns true. -/


namespace Go.Proofs.YtpojmloeadodhaaGreatDoor
open Go.RowKit
theorem HTML_cp1 (s : ByteArray) (n : Nat) (hex : Bool) (w : World) (hs : s = ⟨(cpT n hex).toArray⟩) (h : CpL n hex) :
    Calls Tryz.prog 12 #[.agg #[.bool false, .bool false, .bool false, .bool false, .bool false, .bool false, .bool false, .bool false, .bool false, .bool false], .string s] w fun e w' => e = .returned (.string ⟨(paraOut ([120] ++ esc (cpB n) ++ [120])).toArray⟩) ∧ Below w.heap.size w w' := by
  subst hs
  have hno : ∀ x ∈ cpT n hex, x ≠ 10 ∧ x ≠ 13 ∧ x ≠ 0 := fun x hx => by
    have := cpT_mem n hex hx
    refine ⟨?_, ?_, ?_⟩ <;> (rintro rfl; simp at this)
  refine HTML_par plainO (cpT n hex) _ w (cpT_line n hex) ⟨fun h => (hno _ h).1 rfl, fun h => (hno _ h).2.1 rfl, fun h => (hno _ h).2.2 rfl⟩ ?_ (inlC_cp n hex h) rfl ?_
  · rw [cpT_cons, show bt ⟨(120 :: (refL n hex ++ [120])).toArray⟩ 0 = 120 from bt_some (c := 120) rfl]
    decide
  · have h1 := esc_len (cpB n)
    have h2 := cpB_len n
    simp only [List.length_append, List.length_cons, List.length_nil]
    omega
theorem dgs_at : ∀ d, d < 16 → (ByteArray.mk #[48, 49, 50, 51, 52, 53, 54, 55, 56, 57, 97, 98, 99, 100, 101, 102]).extract d (d + 1) = ⟨#[dgc d]⟩ := by decide
theorem sz1 (c : UInt8) : (ByteArray.mk #[c]).size = 1 := rfl
theorem digits10_any (f n : Nat) (w : World) (hn : n < 10 ^ (f + 1)) (hf : f ≤ 100) (hb : n ≤ 100000000) :
    Calls Tryz.prog 21 #[.int .i64 n, .int .i64 10] w fun e w' => e = .returned (.string ⟨(digsF 10 (f + 1) n).toArray⟩) ∧ ∃ m, w' = w.drewN m := by
  induction f generalizing n w with
  | zero =>
    have h : n < 10 := by simpa using hn
    have e : digsF 10 (0 + 1) n = [dgc n] := by rw [digsF, if_pos h]
    have hx := dgs_at n (by omega)
    rw [e]
    clear hn e
    go_enter Tryz.func21, Tryz.ntmps21
    go_wp2_with fail
    go_ret
    exact ⟨rfl, 0, rfl⟩
  | succ f ih =>
    by_cases h : n < 10
    · have e : digsF 10 (f + 1 + 1) n = [dgc n] := by rw [digsF, if_pos h]
      have hx := dgs_at n (by omega)
      rw [e]
      clear hn e ih
      go_enter Tryz.func21, Tryz.ntmps21
      go_wp2_with fail
      go_ret
      exact ⟨rfl, 0, rfl⟩
    · obtain ⟨q, hq⟩ : ∃ q : Nat, (n : Int) / 10 = q := ⟨n / 10, by omega⟩
      obtain ⟨d, hd⟩ : ∃ d : Nat, (n : Int) % 10 = d := ⟨n % 10, by omega⟩
      have e : digsF 10 (f + 1 + 1) n = digsF 10 (f + 1) q ++ [dgc d] := by
        rw [digsF, if_neg h, show n / 10 = q from by omega, show n % 10 = d from by omega]
      have hq2 : q < 10 ^ (f + 1) := by
        rw [Nat.pow_succ] at hn
        omega
      have HD := hid (fun W => ih q W hq2 (by omega) (by omega))
      have hx := dgs_at d (by omega)
      have hdl := digsF_len 10 (f + 1) q
      have hds : (ByteArray.mk (digsF 10 (f + 1) q).toArray).size = (digsF 10 (f + 1) q).length := sz_mk _
      have hl9 : (digsF 10 (f + 1) q).length ≤ 1000000000 := by omega
      rw [e]
      clear hn e ih hq2 hdl hf
      have hd10 : d < 10 := by omega
      have hq0 : q ≤ 100000000 := by omega
      go_enter Tryz.func21, Tryz.ntmps21
      go_wp2_with fail
      go_quiet (first | (go_at_call 21; refine Calls.quiet_of (HD.out _)))
      go_wp2_with fail
      go_ret
      refine ⟨?_, nq, rfl⟩
      rw [← show ByteArray.mk (digsF 10 (f + 1) q).toArray ++ ByteArray.mk #[dgc d] = ⟨(digsF 10 (f + 1) q ++ [dgc d]).toArray⟩ from cat_lists _ _]
      rfl
theorem digits16_any (f n : Nat) (w : World) (hn : n < 16 ^ (f + 1)) (hf : f ≤ 100) (hb : n ≤ 100000000) :
    Calls Tryz.prog 21 #[.int .i64 n, .int .i64 16] w fun e w' => e = .returned (.string ⟨(digsF 16 (f + 1) n).toArray⟩) ∧ ∃ m, w' = w.drewN m := by
  induction f generalizing n w with
  | zero =>
    have h : n < 16 := by simpa using hn
    have e : digsF 16 (0 + 1) n = [dgc n] := by rw [digsF, if_pos h]
    have hx := dgs_at n (by omega)
    rw [e]
    clear hn e
    go_enter Tryz.func21, Tryz.ntmps21
    go_wp2_with fail
    go_ret
    exact ⟨rfl, 0, rfl⟩
  | succ f ih =>
    by_cases h : n < 16
    · have e : digsF 16 (f + 1 + 1) n = [dgc n] := by rw [digsF, if_pos h]
      have hx := dgs_at n (by omega)
      rw [e]
      clear hn e ih
      go_enter Tryz.func21, Tryz.ntmps21
      go_wp2_with fail
      go_ret
      exact ⟨rfl, 0, rfl⟩
    · obtain ⟨q, hq⟩ : ∃ q : Nat, (n : Int) / 16 = q := ⟨n / 16, by omega⟩
      obtain ⟨d, hd⟩ : ∃ d : Nat, (n : Int) % 16 = d := ⟨n % 16, by omega⟩
      have e : digsF 16 (f + 1 + 1) n = digsF 16 (f + 1) q ++ [dgc d] := by
        rw [digsF, if_neg h, show n / 16 = q from by omega, show n % 16 = d from by omega]
      have hq2 : q < 16 ^ (f + 1) := by
        rw [Nat.pow_succ] at hn
        omega
      have HD := hid (fun W => ih q W hq2 (by omega) (by omega))
      have hx := dgs_at d (by omega)
      have hdl := digsF_len 16 (f + 1) q
      have hds : (ByteArray.mk (digsF 16 (f + 1) q).toArray).size = (digsF 16 (f + 1) q).length := sz_mk _
      have hl9 : (digsF 16 (f + 1) q).length ≤ 1000000000 := by omega
      rw [e]
      clear hn e ih hq2 hdl hf
      have hd10 : d < 16 := by omega
      have hq0 : q ≤ 100000000 := by omega
      go_enter Tryz.func21, Tryz.ntmps21
      go_wp2_with fail
      go_quiet (first | (go_at_call 21; refine Calls.quiet_of (HD.out _)))
      go_wp2_with fail
      go_ret
      refine ⟨?_, nq, rfl⟩
      rw [← show ByteArray.mk (digsF 16 (f + 1) q).toArray ++ ByteArray.mk #[dgc d] = ⟨(digsF 16 (f + 1) q ++ [dgc d]).toArray⟩ from cat_lists _ _]
      rfl
theorem cp_out (n : Nat) : (ByteArray.mk (paraOut ([120] ++ esc (cpB n) ++ [120])).toArray) = (ByteArray.mk #[60, 112, 62, 120] ++ ByteArray.mk (esc (cpB n)).toArray) ++ ByteArray.mk #[120, 60, 47, 112, 62, 10] := by
  rw [show ByteArray.mk #[60, 112, 62, 120] = ⟨[60, 112, 62, 120].toArray⟩ from rfl, show ByteArray.mk #[120, 60, 47, 112, 62, 10] = ⟨[120, 60, 47, 112, 62, 10].toArray⟩ from rfl]
  simp only [cat_lists]
  simp [paraOut]
theorem cp_text10 (n : Nat) : (ByteArray.mk #[120] ++ ((ByteArray.mk #[38, 35] ++ ByteArray.mk (digsF 10 (6 + 1) n).toArray) ++ ByteArray.mk #[59])) ++ ByteArray.mk #[120] = ⟨(cpT n false).toArray⟩ := by
  rw [show ByteArray.mk #[120] = ⟨[120].toArray⟩ from rfl, show ByteArray.mk #[38, 35] = ⟨[38, 35].toArray⟩ from rfl, show ByteArray.mk #[59] = ⟨[59].toArray⟩ from rfl]
  simp only [cat_lists]
  simp [cpT, refL, hxL, cpD]
theorem cp_text16 (n : Nat) : (ByteArray.mk #[120] ++ ((ByteArray.mk #[38, 35, 120] ++ ByteArray.mk (digsF 16 (5 + 1) n).toArray) ++ ByteArray.mk #[59])) ++ ByteArray.mk #[120] = ⟨(cpT n true).toArray⟩ := by
  rw [show ByteArray.mk #[120] = ⟨[120].toArray⟩ from rfl, show ByteArray.mk #[38, 35, 120] = ⟨[38, 35, 120].toArray⟩ from rfl, show ByteArray.mk #[59] = ⟨[59].toArray⟩ from rfl]
  simp only [cat_lists]
  simp [cpT, refL, hxL, cpD]
theorem esc_fffd (n : Nat) (h : cpB n = [239, 191, 189]) : ByteArray.mk (esc (cpB n)).toArray = ⟨#[239, 191, 189]⟩ := by rw [h]; rfl
set_option maxRecDepth 20000 in
set_option maxHeartbeats 1600000 in
theorem law_cp_zero1 (w : World) (HL : Hid (∀ hex, CpL 0 hex)) :
    Calls Tryz.prog 6 #[.int .u32 0, .bool true] w fun e w' => e = .returned (.bool true) ∧ Below w.heap.size w w' := by
  obtain ⟨d10, hd10⟩ : ∃ d, Hid (d = ByteArray.mk (digsF 10 (6 + 1) 0).toArray) := ⟨_, hid rfl⟩
  obtain ⟨d16, hd16⟩ : ∃ d, Hid (d = ByteArray.mk (digsF 16 (5 + 1) 0).toArray) := ⟨_, hid rfl⟩
  obtain ⟨E, hE⟩ : ∃ d, Hid (d = ByteArray.mk (esc (cpB 0)).toArray) := ⟨_, hid rfl⟩
  obtain ⟨C, hC⟩ : ∃ d, Hid (d = ByteArray.mk (cpB 0).toArray) := ⟨_, hid rfl⟩
  have HD10 := hid (fun W => digits10_any 6 0 W (by omega) (by omega) (by omega))
  rw [← hd10.out] at HD10
  have HD16 := hid (fun W => digits16_any 5 0 W (by omega) (by omega) (by omega))
  rw [← hd16.out] at HD16
  have HE := hid (fun W => escapeHTML_any ⟨(cpB 0).toArray⟩ W (bsz (by have := cpB_len 0; omega)))
  rw [← hC.out, show (⟨(esc C.data.toList).toArray⟩ : ByteArray) = E from by rw [hE.out, hC.out]] at HE
  have ho := hid (cp_out 0)
  rw [← hE.out] at ho
  have hz10 : d10.size ≤ 100 := by rw [hd10.out, sz_mk]; have := digsF_len 10 (6 + 1) 0; omega
  have hz16 : d16.size ≤ 100 := by rw [hd16.out, sz_mk]; have := digsF_len 16 (5 + 1) 0; omega
  have hze : E.size ≤ 1000 := by rw [hE.out, sz_mk]; have := esc_len (cpB 0); have := cpB_len 0; omega
  have HX := hid (esc_fffd 0 cpB_zero)
  rw [← hE.out] at HX
  go_enter Tryz.func6, Tryz.ntmps6
  go_wp2_with fail
  refine (HD10.out _).mono ?_
  rintro e w1 ⟨rfl, m1, rfl⟩
  go_wp2_with fail
  refine (HD16.out _).mono ?_
  rintro e w2 ⟨rfl, m2, rfl⟩
  go_wp2_with fail
  refine (HTML_cp1 _ 0 true _ (by rw [hd16.out]; exact cp_text16 0) (HL.out _)).mono ?_
  rintro e w3 ⟨rfl, hb3⟩
  rw [ho.out, HX.out]
  go_wp2_with fail
  go_ret
  exact ⟨rfl, (below_drewN (Below.refl w.heap.size w) _).trans hb3⟩
set_option maxRecDepth 20000 in
set_option maxHeartbeats 1600000 in
theorem law_cp_zero0 (w : World) (HL : Hid (∀ hex, CpL 0 hex)) :
    Calls Tryz.prog 6 #[.int .u32 0, .bool false] w fun e w' => e = .returned (.bool true) ∧ Below w.heap.size w w' := by
  obtain ⟨d10, hd10⟩ : ∃ d, Hid (d = ByteArray.mk (digsF 10 (6 + 1) 0).toArray) := ⟨_, hid rfl⟩
  obtain ⟨d16, hd16⟩ : ∃ d, Hid (d = ByteArray.mk (digsF 16 (5 + 1) 0).toArray) := ⟨_, hid rfl⟩
  obtain ⟨E, hE⟩ : ∃ d, Hid (d = ByteArray.mk (esc (cpB 0)).toArray) := ⟨_, hid rfl⟩
  obtain ⟨C, hC⟩ : ∃ d, Hid (d = ByteArray.mk (cpB 0).toArray) := ⟨_, hid rfl⟩
  have HD10 := hid (fun W => digits10_any 6 0 W (by omega) (by omega) (by omega))
  rw [← hd10.out] at HD10
  have HD16 := hid (fun W => digits16_any 5 0 W (by omega) (by omega) (by omega))
  rw [← hd16.out] at HD16
  have HE := hid (fun W => escapeHTML_any ⟨(cpB 0).toArray⟩ W (bsz (by have := cpB_len 0; omega)))
  rw [← hC.out, show (⟨(esc C.data.toList).toArray⟩ : ByteArray) = E from by rw [hE.out, hC.out]] at HE
  have ho := hid (cp_out 0)
  rw [← hE.out] at ho
  have hz10 : d10.size ≤ 100 := by rw [hd10.out, sz_mk]; have := digsF_len 10 (6 + 1) 0; omega
  have hz16 : d16.size ≤ 100 := by rw [hd16.out, sz_mk]; have := digsF_len 16 (5 + 1) 0; omega
  have hze : E.size ≤ 1000 := by rw [hE.out, sz_mk]; have := esc_len (cpB 0); have := cpB_len 0; omega
  have HX := hid (esc_fffd 0 cpB_zero)
  rw [← hE.out] at HX
  go_enter Tryz.func6, Tryz.ntmps6
  go_wp2_with fail
  refine (HD10.out _).mono ?_
  rintro e w1 ⟨rfl, m1, rfl⟩
  go_wp2_with fail
  refine (HTML_cp1 _ 0 false _ (by rw [hd10.out]; exact cp_text10 0) (HL.out _)).mono ?_
  rintro e w3 ⟨rfl, hb3⟩
  rw [ho.out, HX.out]
  go_wp2_with fail
  go_ret
  exact ⟨rfl, (below_drewN (Below.refl w.heap.size w) _).trans hb3⟩
set_option maxRecDepth 20000 in
set_option maxHeartbeats 1600000 in
theorem law_cp_lo1 (n : Nat) (h33 : 33 ≤ n) (hle : n ≤ 9999999) (hmax : n ≤ 1114111) (hs1 : n < 55296) (w : World) (HL : Hid (∀ hex, CpL n hex)) :
    Calls Tryz.prog 6 #[.int .u32 n, .bool true] w fun e w' => e = .returned (.bool true) ∧ Below w.heap.size w w' := by
  obtain ⟨d10, hd10⟩ : ∃ d, Hid (d = ByteArray.mk (digsF 10 (6 + 1) n).toArray) := ⟨_, hid rfl⟩
  obtain ⟨d16, hd16⟩ : ∃ d, Hid (d = ByteArray.mk (digsF 16 (5 + 1) n).toArray) := ⟨_, hid rfl⟩
  obtain ⟨E, hE⟩ : ∃ d, Hid (d = ByteArray.mk (esc (cpB n)).toArray) := ⟨_, hid rfl⟩
  obtain ⟨C, hC⟩ : ∃ d, Hid (d = ByteArray.mk (cpB n).toArray) := ⟨_, hid rfl⟩
  have HD10 := hid (fun W => digits10_any 6 n W (by omega) (by omega) (by omega))
  rw [← hd10.out] at HD10
  have HD16 := hid (fun W => digits16_any 5 n W (by omega) (by omega) (by omega))
  rw [← hd16.out] at HD16
  have HE := hid (fun W => escapeHTML_any ⟨(cpB n).toArray⟩ W (bsz (by have := cpB_len n; omega)))
  rw [← hC.out, show (⟨(esc C.data.toList).toArray⟩ : ByteArray) = E from by rw [hE.out, hC.out]] at HE
  have ho := hid (cp_out n)
  rw [← hE.out] at ho
  have hz10 : d10.size ≤ 100 := by rw [hd10.out, sz_mk]; have := digsF_len 10 (6 + 1) n; omega
  have hz16 : d16.size ≤ 100 := by rw [hd16.out, sz_mk]; have := digsF_len 16 (5 + 1) n; omega
  have hze : E.size ≤ 1000 := by rw [hE.out, sz_mk]; have := esc_len (cpB n); have := cpB_len n; omega
  have hcp := cp_enc2 n (by omega)
  rw [← hC.out] at hcp
  obtain ⟨z, hz⟩ : ∃ z : Int, Hid (z = (n : Int)) := ⟨_, hid rfl⟩
  rw [← hz.out] at HD10 HD16 hcp ⊢
  have z1 : 33 ≤ z := by rw [hz.out]; omega
  have z2 : z ≤ 1114111 := by rw [hz.out]; omega
  have z3 : z < 55296 := by rw [hz.out]; omega
  clear h33 hle hmax hs1
  go_enter Tryz.func6, Tryz.ntmps6
  go_wp2_with fail
  refine (HE.out w).mono ?_
  rintro e w0 ⟨rfl, rfl⟩
  go_wp2_with fail
  refine (HD10.out _).mono ?_
  rintro e w1 ⟨rfl, m1, rfl⟩
  go_wp2_with fail
  refine (HD16.out _).mono ?_
  rintro e w2 ⟨rfl, m2, rfl⟩
  go_wp2_with fail
  refine (HTML_cp1 _ n true _ (by rw [hd16.out]; exact cp_text16 n) (HL.out _)).mono ?_
  rintro e w3 ⟨rfl, hb3⟩
  rw [ho.out]
  go_wp2_with fail
  go_ret
  exact ⟨rfl, (below_drewN (Below.refl w.heap.size w) _).trans hb3⟩
set_option maxRecDepth 20000 in
set_option maxHeartbeats 1600000 in
theorem law_cp_lo0 (n : Nat) (h33 : 33 ≤ n) (hle : n ≤ 9999999) (hmax : n ≤ 1114111) (hs1 : n < 55296) (w : World) (HL : Hid (∀ hex, CpL n hex)) :
    Calls Tryz.prog 6 #[.int .u32 n, .bool false] w fun e w' => e = .returned (.bool true) ∧ Below w.heap.size w w' := by
  obtain ⟨d10, hd10⟩ : ∃ d, Hid (d = ByteArray.mk (digsF 10 (6 + 1) n).toArray) := ⟨_, hid rfl⟩
  obtain ⟨d16, hd16⟩ : ∃ d, Hid (d = ByteArray.mk (digsF 16 (5 + 1) n).toArray) := ⟨_, hid rfl⟩
  obtain ⟨E, hE⟩ : ∃ d, Hid (d = ByteArray.mk (esc (cpB n)).toArray) := ⟨_, hid rfl⟩
  obtain ⟨C, hC⟩ : ∃ d, Hid (d = ByteArray.mk (cpB n).toArray) := ⟨_, hid rfl⟩
  have HD10 := hid (fun W => digits10_any 6 n W (by omega) (by omega) (by omega))
  rw [← hd10.out] at HD10
  have HD16 := hid (fun W => digits16_any 5 n W (by omega) (by omega) (by omega))
  rw [← hd16.out] at HD16
  have HE := hid (fun W => escapeHTML_any ⟨(cpB n).toArray⟩ W (bsz (by have := cpB_len n; omega)))
  rw [← hC.out, show (⟨(esc C.data.toList).toArray⟩ : ByteArray) = E from by rw [hE.out, hC.out]] at HE
  have ho := hid (cp_out n)
  rw [← hE.out] at ho
  have hz10 : d10.size ≤ 100 := by rw [hd10.out, sz_mk]; have := digsF_len 10 (6 + 1) n; omega
  have hz16 : d16.size ≤ 100 := by rw [hd16.out, sz_mk]; have := digsF_len 16 (5 + 1) n; omega
  have hze : E.size ≤ 1000 := by rw [hE.out, sz_mk]; have := esc_len (cpB n); have := cpB_len n; omega
  have hcp := cp_enc2 n (by omega)
  rw [← hC.out] at hcp
  obtain ⟨z, hz⟩ : ∃ z : Int, Hid (z = (n : Int)) := ⟨_, hid rfl⟩
  rw [← hz.out] at HD10 HD16 hcp ⊢
  have z1 : 33 ≤ z := by rw [hz.out]; omega
  have z2 : z ≤ 1114111 := by rw [hz.out]; omega
  have z3 : z < 55296 := by rw [hz.out]; omega
  clear h33 hle hmax hs1
  go_enter Tryz.func6, Tryz.ntmps6
  go_wp2_with fail
  refine (HE.out w).mono ?_
  rintro e w0 ⟨rfl, rfl⟩
  go_wp2_with fail
  refine (HD10.out _).mono ?_
  rintro e w1 ⟨rfl, m1, rfl⟩
  go_wp2_with fail
  refine (HTML_cp1 _ n false _ (by rw [hd10.out]; exact cp_text10 n) (HL.out _)).mono ?_
  rintro e w3 ⟨rfl, hb3⟩
  rw [ho.out]
  go_wp2_with fail
  go_ret
  exact ⟨rfl, (below_drewN (Below.refl w.heap.size w) _).trans hb3⟩
set_option maxRecDepth 20000 in
set_option maxHeartbeats 1600000 in
theorem law_cp_hi1 (n : Nat) (h33 : 33 ≤ n) (hle : n ≤ 9999999) (hmax : n ≤ 1114111) (hs1 : ¬ n < 55296) (hs2 : n > 57343) (w : World) (HL : Hid (∀ hex, CpL n hex)) :
    Calls Tryz.prog 6 #[.int .u32 n, .bool true] w fun e w' => e = .returned (.bool true) ∧ Below w.heap.size w w' := by
  obtain ⟨d10, hd10⟩ : ∃ d, Hid (d = ByteArray.mk (digsF 10 (6 + 1) n).toArray) := ⟨_, hid rfl⟩
  obtain ⟨d16, hd16⟩ : ∃ d, Hid (d = ByteArray.mk (digsF 16 (5 + 1) n).toArray) := ⟨_, hid rfl⟩
  obtain ⟨E, hE⟩ : ∃ d, Hid (d = ByteArray.mk (esc (cpB n)).toArray) := ⟨_, hid rfl⟩
  obtain ⟨C, hC⟩ : ∃ d, Hid (d = ByteArray.mk (cpB n).toArray) := ⟨_, hid rfl⟩
  have HD10 := hid (fun W => digits10_any 6 n W (by omega) (by omega) (by omega))
  rw [← hd10.out] at HD10
  have HD16 := hid (fun W => digits16_any 5 n W (by omega) (by omega) (by omega))
  rw [← hd16.out] at HD16
  have HE := hid (fun W => escapeHTML_any ⟨(cpB n).toArray⟩ W (bsz (by have := cpB_len n; omega)))
  rw [← hC.out, show (⟨(esc C.data.toList).toArray⟩ : ByteArray) = E from by rw [hE.out, hC.out]] at HE
  have ho := hid (cp_out n)
  rw [← hE.out] at ho
  have hz10 : d10.size ≤ 100 := by rw [hd10.out, sz_mk]; have := digsF_len 10 (6 + 1) n; omega
  have hz16 : d16.size ≤ 100 := by rw [hd16.out, sz_mk]; have := digsF_len 16 (5 + 1) n; omega
  have hze : E.size ≤ 1000 := by rw [hE.out, sz_mk]; have := esc_len (cpB n); have := cpB_len n; omega
  have hcp := cp_enc2 n (by omega)
  rw [← hC.out] at hcp
  obtain ⟨z, hz⟩ : ∃ z : Int, Hid (z = (n : Int)) := ⟨_, hid rfl⟩
  rw [← hz.out] at HD10 HD16 hcp ⊢
  have z1 : 33 ≤ z := by rw [hz.out]; omega
  have z2 : z ≤ 1114111 := by rw [hz.out]; omega
  have z3 : 57343 < z := by rw [hz.out]; omega
  clear h33 hle hmax hs1 hs2
  go_enter Tryz.func6, Tryz.ntmps6
  go_wp2_with fail
  refine (HE.out w).mono ?_
  rintro e w0 ⟨rfl, rfl⟩
  go_wp2_with fail
  refine (HD10.out _).mono ?_
  rintro e w1 ⟨rfl, m1, rfl⟩
  go_wp2_with fail
  refine (HD16.out _).mono ?_
  rintro e w2 ⟨rfl, m2, rfl⟩
  go_wp2_with fail
  refine (HTML_cp1 _ n true _ (by rw [hd16.out]; exact cp_text16 n) (HL.out _)).mono ?_
  rintro e w3 ⟨rfl, hb3⟩
  rw [ho.out]
  go_wp2_with fail
  go_ret
  exact ⟨rfl, (below_drewN (Below.refl w.heap.size w) _).trans hb3⟩
set_option maxRecDepth 20000 in
set_option maxHeartbeats 1600000 in
theorem law_cp_hi0 (n : Nat) (h33 : 33 ≤ n) (hle : n ≤ 9999999) (hmax : n ≤ 1114111) (hs1 : ¬ n < 55296) (hs2 : n > 57343) (w : World) (HL : Hid (∀ hex, CpL n hex)) :
    Calls Tryz.prog 6 #[.int .u32 n, .bool false] w fun e w' => e = .returned (.bool true) ∧ Below w.heap.size w w' := by
  obtain ⟨d10, hd10⟩ : ∃ d, Hid (d = ByteArray.mk (digsF 10 (6 + 1) n).toArray) := ⟨_, hid rfl⟩
  obtain ⟨d16, hd16⟩ : ∃ d, Hid (d = ByteArray.mk (digsF 16 (5 + 1) n).toArray) := ⟨_, hid rfl⟩
  obtain ⟨E, hE⟩ : ∃ d, Hid (d = ByteArray.mk (esc (cpB n)).toArray) := ⟨_, hid rfl⟩
  obtain ⟨C, hC⟩ : ∃ d, Hid (d = ByteArray.mk (cpB n).toArray) := ⟨_, hid rfl⟩
  have HD10 := hid (fun W => digits10_any 6 n W (by omega) (by omega) (by omega))
  rw [← hd10.out] at HD10
  have HD16 := hid (fun W => digits16_any 5 n W (by omega) (by omega) (by omega))
  rw [← hd16.out] at HD16
  have HE := hid (fun W => escapeHTML_any ⟨(cpB n).toArray⟩ W (bsz (by have := cpB_len n; omega)))
  rw [← hC.out, show (⟨(esc C.data.toList).toArray⟩ : ByteArray) = E from by rw [hE.out, hC.out]] at HE
  have ho := hid (cp_out n)
  rw [← hE.out] at ho
  have hz10 : d10.size ≤ 100 := by rw [hd10.out, sz_mk]; have := digsF_len 10 (6 + 1) n; omega
  have hz16 : d16.size ≤ 100 := by rw [hd16.out, sz_mk]; have := digsF_len 16 (5 + 1) n; omega
  have hze : E.size ≤ 1000 := by rw [hE.out, sz_mk]; have := esc_len (cpB n); have := cpB_len n; omega
  have hcp := cp_enc2 n (by omega)
  rw [← hC.out] at hcp
  obtain ⟨z, hz⟩ : ∃ z : Int, Hid (z = (n : Int)) := ⟨_, hid rfl⟩
  rw [← hz.out] at HD10 HD16 hcp ⊢
  have z1 : 33 ≤ z := by rw [hz.out]; omega
  have z2 : z ≤ 1114111 := by rw [hz.out]; omega
  have z3 : 57343 < z := by rw [hz.out]; omega
  clear h33 hle hmax hs1 hs2
  go_enter Tryz.func6, Tryz.ntmps6
  go_wp2_with fail
  refine (HE.out w).mono ?_
  rintro e w0 ⟨rfl, rfl⟩
  go_wp2_with fail
  refine (HD10.out _).mono ?_
  rintro e w1 ⟨rfl, m1, rfl⟩
  go_wp2_with fail
  refine (HTML_cp1 _ n false _ (by rw [hd10.out]; exact cp_text10 n) (HL.out _)).mono ?_
  rintro e w3 ⟨rfl, hb3⟩
  rw [ho.out]
  go_wp2_with fail
  go_ret
  exact ⟨rfl, (below_drewN (Below.refl w.heap.size w) _).trans hb3⟩
set_option maxRecDepth 20000 in
set_option maxHeartbeats 1600000 in
theorem law_cp_hole1 (n : Nat) (h33 : 33 ≤ n) (hle : n ≤ 9999999) (hmax : n ≤ 1114111) (hs1 : ¬ n < 55296) (hs2 : ¬ n > 57343) (w : World) (HL : Hid (∀ hex, CpL n hex)) :
    Calls Tryz.prog 6 #[.int .u32 n, .bool true] w fun e w' => e = .returned (.bool true) ∧ Below w.heap.size w w' := by
  obtain ⟨d10, hd10⟩ : ∃ d, Hid (d = ByteArray.mk (digsF 10 (6 + 1) n).toArray) := ⟨_, hid rfl⟩
  obtain ⟨d16, hd16⟩ : ∃ d, Hid (d = ByteArray.mk (digsF 16 (5 + 1) n).toArray) := ⟨_, hid rfl⟩
  obtain ⟨E, hE⟩ : ∃ d, Hid (d = ByteArray.mk (esc (cpB n)).toArray) := ⟨_, hid rfl⟩
  obtain ⟨C, hC⟩ : ∃ d, Hid (d = ByteArray.mk (cpB n).toArray) := ⟨_, hid rfl⟩
  have HD10 := hid (fun W => digits10_any 6 n W (by omega) (by omega) (by omega))
  rw [← hd10.out] at HD10
  have HD16 := hid (fun W => digits16_any 5 n W (by omega) (by omega) (by omega))
  rw [← hd16.out] at HD16
  have HE := hid (fun W => escapeHTML_any ⟨(cpB n).toArray⟩ W (bsz (by have := cpB_len n; omega)))
  rw [← hC.out, show (⟨(esc C.data.toList).toArray⟩ : ByteArray) = E from by rw [hE.out, hC.out]] at HE
  have ho := hid (cp_out n)
  rw [← hE.out] at ho
  have hz10 : d10.size ≤ 100 := by rw [hd10.out, sz_mk]; have := digsF_len 10 (6 + 1) n; omega
  have hz16 : d16.size ≤ 100 := by rw [hd16.out, sz_mk]; have := digsF_len 16 (5 + 1) n; omega
  have hze : E.size ≤ 1000 := by rw [hE.out, sz_mk]; have := esc_len (cpB n); have := cpB_len n; omega
  have HX := hid (esc_fffd n (cpB_hole n (by omega)))
  rw [← hE.out] at HX
  go_enter Tryz.func6, Tryz.ntmps6
  go_wp2_with fail
  refine (HD10.out _).mono ?_
  rintro e w1 ⟨rfl, m1, rfl⟩
  go_wp2_with fail
  refine (HD16.out _).mono ?_
  rintro e w2 ⟨rfl, m2, rfl⟩
  go_wp2_with fail
  refine (HTML_cp1 _ n true _ (by rw [hd16.out]; exact cp_text16 n) (HL.out _)).mono ?_
  rintro e w3 ⟨rfl, hb3⟩
  rw [ho.out, HX.out]
  go_wp2_with fail
  go_ret
  exact ⟨rfl, (below_drewN (Below.refl w.heap.size w) _).trans hb3⟩
set_option maxRecDepth 20000 in
set_option maxHeartbeats 1600000 in
theorem law_cp_hole0 (n : Nat) (h33 : 33 ≤ n) (hle : n ≤ 9999999) (hmax : n ≤ 1114111) (hs1 : ¬ n < 55296) (hs2 : ¬ n > 57343) (w : World) (HL : Hid (∀ hex, CpL n hex)) :
    Calls Tryz.prog 6 #[.int .u32 n, .bool false] w fun e w' => e = .returned (.bool true) ∧ Below w.heap.size w w' := by
  obtain ⟨d10, hd10⟩ : ∃ d, Hid (d = ByteArray.mk (digsF 10 (6 + 1) n).toArray) := ⟨_, hid rfl⟩
  obtain ⟨d16, hd16⟩ : ∃ d, Hid (d = ByteArray.mk (digsF 16 (5 + 1) n).toArray) := ⟨_, hid rfl⟩
  obtain ⟨E, hE⟩ : ∃ d, Hid (d = ByteArray.mk (esc (cpB n)).toArray) := ⟨_, hid rfl⟩
  obtain ⟨C, hC⟩ : ∃ d, Hid (d = ByteArray.mk (cpB n).toArray) := ⟨_, hid rfl⟩
  have HD10 := hid (fun W => digits10_any 6 n W (by omega) (by omega) (by omega))
  rw [← hd10.out] at HD10
  have HD16 := hid (fun W => digits16_any 5 n W (by omega) (by omega) (by omega))
  rw [← hd16.out] at HD16
  have HE := hid (fun W => escapeHTML_any ⟨(cpB n).toArray⟩ W (bsz (by have := cpB_len n; omega)))
  rw [← hC.out, show (⟨(esc C.data.toList).toArray⟩ : ByteArray) = E from by rw [hE.out, hC.out]] at HE
  have ho := hid (cp_out n)
  rw [← hE.out] at ho
  have hz10 : d10.size ≤ 100 := by rw [hd10.out, sz_mk]; have := digsF_len 10 (6 + 1) n; omega
  have hz16 : d16.size ≤ 100 := by rw [hd16.out, sz_mk]; have := digsF_len 16 (5 + 1) n; omega
  have hze : E.size ≤ 1000 := by rw [hE.out, sz_mk]; have := esc_len (cpB n); have := cpB_len n; omega
  have HX := hid (esc_fffd n (cpB_hole n (by omega)))
  rw [← hE.out] at HX
  go_enter Tryz.func6, Tryz.ntmps6
  go_wp2_with fail
  refine (HD10.out _).mono ?_
  rintro e w1 ⟨rfl, m1, rfl⟩
  go_wp2_with fail
  refine (HTML_cp1 _ n false _ (by rw [hd10.out]; exact cp_text10 n) (HL.out _)).mono ?_
  rintro e w3 ⟨rfl, hb3⟩
  rw [ho.out, HX.out]
  go_wp2_with fail
  go_ret
  exact ⟨rfl, (below_drewN (Below.refl w.heap.size w) _).trans hb3⟩
set_option maxRecDepth 20000 in
set_option maxHeartbeats 1600000 in
theorem law_cp_big1 (n : Nat) (h33 : 33 ≤ n) (hle : n ≤ 9999999) (hmax : ¬ n ≤ 1114111) (w : World) (HL : Hid (∀ hex, CpL n hex)) :
    Calls Tryz.prog 6 #[.int .u32 n, .bool true] w fun e w' => e = .returned (.bool true) ∧ Below w.heap.size w w' := by
  obtain ⟨d10, hd10⟩ : ∃ d, Hid (d = ByteArray.mk (digsF 10 (6 + 1) n).toArray) := ⟨_, hid rfl⟩
  obtain ⟨d16, hd16⟩ : ∃ d, Hid (d = ByteArray.mk (digsF 16 (5 + 1) n).toArray) := ⟨_, hid rfl⟩
  obtain ⟨E, hE⟩ : ∃ d, Hid (d = ByteArray.mk (esc (cpB n)).toArray) := ⟨_, hid rfl⟩
  obtain ⟨C, hC⟩ : ∃ d, Hid (d = ByteArray.mk (cpB n).toArray) := ⟨_, hid rfl⟩
  have HD10 := hid (fun W => digits10_any 6 n W (by omega) (by omega) (by omega))
  rw [← hd10.out] at HD10
  have HD16 := hid (fun W => digits16_any 5 n W (by omega) (by omega) (by omega))
  rw [← hd16.out] at HD16
  have HE := hid (fun W => escapeHTML_any ⟨(cpB n).toArray⟩ W (bsz (by have := cpB_len n; omega)))
  rw [← hC.out, show (⟨(esc C.data.toList).toArray⟩ : ByteArray) = E from by rw [hE.out, hC.out]] at HE
  have ho := hid (cp_out n)
  rw [← hE.out] at ho
  have hz10 : d10.size ≤ 100 := by rw [hd10.out, sz_mk]; have := digsF_len 10 (6 + 1) n; omega
  have hz16 : d16.size ≤ 100 := by rw [hd16.out, sz_mk]; have := digsF_len 16 (5 + 1) n; omega
  have hze : E.size ≤ 1000 := by rw [hE.out, sz_mk]; have := esc_len (cpB n); have := cpB_len n; omega
  have HX := hid (esc_fffd n (cpB_big n (by omega)))
  rw [← hE.out] at HX
  go_enter Tryz.func6, Tryz.ntmps6
  go_wp2_with fail
  refine (HD10.out _).mono ?_
  rintro e w1 ⟨rfl, m1, rfl⟩
  go_wp2_with fail
  refine (HD16.out _).mono ?_
  rintro e w2 ⟨rfl, m2, rfl⟩
  go_wp2_with fail
  refine (HTML_cp1 _ n true _ (by rw [hd16.out]; exact cp_text16 n) (HL.out _)).mono ?_
  rintro e w3 ⟨rfl, hb3⟩
  rw [ho.out, HX.out]
  go_wp2_with fail
  go_ret
  exact ⟨rfl, (below_drewN (Below.refl w.heap.size w) _).trans hb3⟩
set_option maxRecDepth 20000 in
set_option maxHeartbeats 1600000 in
theorem law_cp_big0 (n : Nat) (h33 : 33 ≤ n) (hle : n ≤ 9999999) (hmax : ¬ n ≤ 1114111) (w : World) (HL : Hid (∀ hex, CpL n hex)) :
    Calls Tryz.prog 6 #[.int .u32 n, .bool false] w fun e w' => e = .returned (.bool true) ∧ Below w.heap.size w w' := by
  obtain ⟨d10, hd10⟩ : ∃ d, Hid (d = ByteArray.mk (digsF 10 (6 + 1) n).toArray) := ⟨_, hid rfl⟩
  obtain ⟨d16, hd16⟩ : ∃ d, Hid (d = ByteArray.mk (digsF 16 (5 + 1) n).toArray) := ⟨_, hid rfl⟩
  obtain ⟨E, hE⟩ : ∃ d, Hid (d = ByteArray.mk (esc (cpB n)).toArray) := ⟨_, hid rfl⟩
  obtain ⟨C, hC⟩ : ∃ d, Hid (d = ByteArray.mk (cpB n).toArray) := ⟨_, hid rfl⟩
  have HD10 := hid (fun W => digits10_any 6 n W (by omega) (by omega) (by omega))
  rw [← hd10.out] at HD10
  have HD16 := hid (fun W => digits16_any 5 n W (by omega) (by omega) (by omega))
  rw [← hd16.out] at HD16
  have HE := hid (fun W => escapeHTML_any ⟨(cpB n).toArray⟩ W (bsz (by have := cpB_len n; omega)))
  rw [← hC.out, show (⟨(esc C.data.toList).toArray⟩ : ByteArray) = E from by rw [hE.out, hC.out]] at HE
  have ho := hid (cp_out n)
  rw [← hE.out] at ho
  have hz10 : d10.size ≤ 100 := by rw [hd10.out, sz_mk]; have := digsF_len 10 (6 + 1) n; omega
  have hz16 : d16.size ≤ 100 := by rw [hd16.out, sz_mk]; have := digsF_len 16 (5 + 1) n; omega
  have hze : E.size ≤ 1000 := by rw [hE.out, sz_mk]; have := esc_len (cpB n); have := cpB_len n; omega
  have HX := hid (esc_fffd n (cpB_big n (by omega)))
  rw [← hE.out] at HX
  go_enter Tryz.func6, Tryz.ntmps6
  go_wp2_with fail
  refine (HD10.out _).mono ?_
  rintro e w1 ⟨rfl, m1, rfl⟩
  go_wp2_with fail
  refine (HTML_cp1 _ n false _ (by rw [hd10.out]; exact cp_text10 n) (HL.out _)).mono ?_
  rintro e w3 ⟨rfl, hb3⟩
  rw [ho.out, HX.out]
  go_wp2_with fail
  go_ret
  exact ⟨rfl, (below_drewN (Below.refl w.heap.size w) _).trans hb3⟩
set_option maxRecDepth 20000 in
theorem law_cp (n : Nat) (hex : Bool) (w : World) (hn32 : n < 4294967296) :
    Calls Tryz.prog 6 #[.int .u32 n, .bool hex] w fun e w' => e = .returned (.bool true) ∧ Below w.heap.size w w' := by
  by_cases hbig : n > 9999999
  · go_enter Tryz.func6, Tryz.ntmps6
    go_wp2_with fail
    go_ret
    exact ⟨rfl, Below.refl _ _⟩
  · by_cases hlow : 0 < n ∧ n < 33
    · obtain ⟨hl1, hl2⟩ := hlow
      go_enter Tryz.func6, Tryz.ntmps6
      go_wp2_with fail
      go_ret
      exact ⟨rfl, Below.refl _ _⟩
    · have HL := hid (show ∀ hex, CpL n hex from fun hex => ⟨by omega, fun _ => by omega⟩)
      by_cases h0 : n = 0
      · subst h0
        cases hex with
        | true => exact law_cp_zero1 w HL
        | false => exact law_cp_zero0 w HL
      · have h33 : 33 ≤ n := by omega
        have hle : n ≤ 9999999 := by omega
        by_cases hmax : n ≤ 1114111
        · by_cases hs1 : n < 55296
          · cases hex with
            | true => exact law_cp_lo1 n h33 hle hmax hs1 w HL
            | false => exact law_cp_lo0 n h33 hle hmax hs1 w HL
          · by_cases hs2 : n > 57343
            · cases hex with
              | true => exact law_cp_hi1 n h33 hle hmax hs1 hs2 w HL
              | false => exact law_cp_hi0 n h33 hle hmax hs1 hs2 w HL
            · cases hex with
              | true => exact law_cp_hole1 n h33 hle hmax hs1 hs2 w HL
              | false => exact law_cp_hole0 n h33 hle hmax hs1 hs2 w HL
        · cases hex with
          | true => exact law_cp_big1 n h33 hle hmax w HL
          | false => exact law_cp_big0 n h33 hle hmax w HL
end Go.Proofs.YtpojmloeadodhaaGreatDoor
/- Arguments of a law that are bytes. -/

namespace Go.Proofs.YtpojmloeadodhaaGreatDoor
open Go.RowKit Go.ChangeShapes Go.WideShapes Go.ChangeAt
/-- A byte, as a number below 256. -/
theorem open_byte {H : Type} {enc : TypeId × Value → H} {P : Program} {t : TypeId} (ht : P.underlying t = some (.int .u8)) {W : World} {base : Nat} {v : Value} {d : DataW H} {ps : List MemPlace}
    (hval : Value.okWide P W .any base t v) (h : DataW.Trod enc P W 0 (fun _ => true) true t v d ps) : ∃ n : Nat, v = .int .u8 n ∧ n < 256 := by
  obtain ⟨z, rfl, _, _, hw⟩ := open_int ht hval h
  have h3 : 0 ≤ z ∧ z ≤ 255 := by simpa [Lit.wf, IntKind.min, IntKind.max, IntKind.bits, IntKind.signed] using hw
  obtain ⟨n, rfl⟩ := Int.eq_ofNat_of_zero_le h3.1
  exact ⟨n, rfl, by omega⟩
end Go.Proofs.YtpojmloeadodhaaGreatDoor
/- Arguments of a law that are words of 32 bits. -/

namespace Go.Proofs.YtpojmloeadodhaaGreatDoor
open Go.RowKit Go.ChangeShapes Go.WideShapes Go.ChangeAt
/-- A word, as a number below 2^32. -/
theorem open_word {H : Type} {enc : TypeId × Value → H} {P : Program} {t : TypeId} (ht : P.underlying t = some (.int .u32)) {W : World} {base : Nat} {v : Value} {d : DataW H} {ps : List MemPlace}
    (hval : Value.okWide P W .any base t v) (h : DataW.Trod enc P W 0 (fun _ => true) true t v d ps) : ∃ n : Nat, v = .int .u32 n ∧ n < 4294967296 := by
  obtain ⟨z, rfl, _, _, hw⟩ := open_int ht hval h
  have h3 : 0 ≤ z ∧ z ≤ 4294967295 := by simpa [Lit.wf, IntKind.min, IntKind.max, IntKind.bits, IntKind.signed] using hw
  obtain ⟨n, rfl⟩ := Int.eq_ofNat_of_zero_le h3.1
  exact ⟨n, rfl, by omega⟩
end Go.Proofs.YtpojmloeadodhaaGreatDoor
/- The witness's world, for every law: the settled world, the eight listed variables holding what their initialisers lay. -/




namespace Go.Proofs.YtpojmloeadodhaaGreatDoor
open Go.RowKit Go.ChangeShapes Go.WideShapes Go.ChangeAt Go.Lib
/-- The cells of a datum of plain parts. -/
def flat1 : DataW Unit → List Value
  | .lit (.int k n) => [.int k n]
  | .lit (.string s) => [.string ⟨s.toArray⟩]
  | _ => []
def flat2 : DataW Unit → List Value
  | .agg ds => ds.flatMap flat1
  | d => flat1 d
def flat3 : DataW Unit → List Value
  | .agg ds => ds.flatMap flat2
  | d => flat2 d
noncomputable def laidWorld (os : Os) : World :=
  let N := (World.settled Tryz.prog os).heap.size
  let w0 := World.holding Tryz.prog os ⟨#[
    .cells #[.string ⟨#[105, 110, 118, 97, 108, 105, 100, 32, 115, 121, 110, 116, 97, 120]⟩] 311,
    .cells #[.string ⟨#[118, 97, 108, 117, 101, 32, 111, 117, 116, 32, 111, 102, 32, 114, 97, 110, 103, 101]⟩] 311], #[], []⟩
  let put (h : Array Obj) (g : Nat) (cs : Array Value) : Array Obj := h.modify g fun
    | .cells _ t frozen => .cells cs t frozen
    | o => o
  let h1 := put w0.heap 1 (flat3 Rows.laid_pub_paratext_pub_rscmarkdown_htmlEntities).toArray
  let h2 := put h1 2 (flat3 Rows.laid_unicode_utf8_first).toArray
  let h3 := put h2 3 (flat3 Rows.laid_unicode_utf8_acceptRanges).toArray
  let h4 := put h3 4 #[.iface 309 (.pointer (some ⟨N, 0, none⟩))]
  let h5 := put h4 5 #[.iface 309 (.pointer (some ⟨N + 1, 0, none⟩))]
  let h6 := put h5 6 (flat3 Rows.laid_internal_strconv_uint64pow10).toArray
  let h7 := put h6 7 (flat3 Rows.laid_math_bits_deBruijn32tab).toArray
  let h8 := put h7 8 (flat3 Rows.laid_math_bits_deBruijn64tab).toArray
  { w0 with heap := h8 }
noncomputable abbrev N0 : Nat := (World.settled Tryz.prog default).heap.size
set_option maxRecDepth 1000000 in
theorem laid_met (os : Os) (args : Array Value) : laidMet Tryz.prog Rows.fnKeptRow.laid ((laidWorld os).forCall (fun _ _ => 0) ⟨#[], args, []⟩).memory :=
  (LaidIn.of_run [1, 2, 3, 4, 5, 6, 7, 8, N0, N0 + 1] 8 (by kernel_rfl) (by kernel_rfl) (by kernel_rfl) (by kernel_rfl)).met
end Go.Proofs.YtpojmloeadodhaaGreatDoor
/- The closed facts that the row of FnCodePoint asks of the program. -/


namespace Go.Proofs.YtpojmloeadodhaaGreatDoor.fnCodePoint
open Go.ChangeShapes Go.WideShapes Go.ChangeAt Go.RowKit
set_option maxHeartbeats 8000000 in
set_option maxRecDepth 100000 in
theorem closed : joinedFacts Tryz.prog 6 Tryz.f6 (OpenSpec.ofChange Rows.fnCodePointSpec).bare Rows.fnCodePointRow = true := by
  unfold joinedFacts
  simp only [Bool.and_eq_true]
  repeat' (refine And.intro ?_ ?_)
  all_goals (as_aux_lemma => kernel_rfl)
theorem inst : Tryz.f6.isInstance Tryz.prog Rows.fnCodePointRow.origin Rows.fnCodePointRow.targs := of_decide_eq_true (by kernel_rfl)
theorem wrap : Tryz.f6.isWrapper Tryz.prog Rows.fnCodePointRow.wrapper Rows.fnCodePointRow.mainSum := by unfold Func.isWrapper; rw [if_neg (of_decide_eq_false (by kernel_rfl))]; exact ⟨rfl, rfl⟩
theorem looks : true = Tryz.prog.looks [] := by kernel_rfl
theorem named : Tryz.prog.funcNamed "pub-paratext/laws.FnCodePoint" = some 6 := by kernel_rfl
theorem noStand0 : Tryz.prog.wantsStandIn 38 = false := by kernel_rfl
theorem read0 : Tryz.prog.readableRec 38 = true := by kernel_rfl
theorem lt0 : 38 < Tryz.prog.types.size := of_decide_eq_true (by kernel_rfl)
theorem noStand1 : Tryz.prog.wantsStandIn 4 = false := by kernel_rfl
theorem read1 : Tryz.prog.readableRec 4 = true := by kernel_rfl
theorem lt1 : 4 < Tryz.prog.types.size := of_decide_eq_true (by kernel_rfl)
end Go.Proofs.YtpojmloeadodhaaGreatDoor.fnCodePoint
/- The closed facts that the card of FnCodePoint asks of the program. -/


namespace Go.Proofs.YtpojmloeadodhaaGreatDoor.fnCodePoint
open Go.ChangeShapes Go.WideShapes Go.ChangeAt Go.RowKit
theorem goes : false = Rows.fnCodePointRow.goesBy Tryz.pinned.checked.prog := by kernel_rfl
theorem wfBy : Rows.fnCodePointRow.wfByText (OpenSpec.ofChange Rows.fnCodePointSpec) = true := by kernel_rfl
theorem mainIs : Tryz.pinned.checked.prog.mainIs = some ((true, "1ed0bb808aca9620a07a9dc9eae41fbb3f78e60001960e86506c1a8a781df727").1, (true, "1ed0bb808aca9620a07a9dc9eae41fbb3f78e60001960e86506c1a8a781df727").2.toList) := by kernel_rfl
end Go.Proofs.YtpojmloeadodhaaGreatDoor.fnCodePoint
/- PROVED: a numeric reference, decimal or hexadecimal, to a character is this character, or the replacement character where there is none (the law FnCodePoint returns true). -/







namespace Go.Proofs.YtpojmloeadodhaaGreatDoor.fnCodePoint
open Go.ChangeShapes Go.WideShapes Go.ChangeAt Go.RowKit
set_option maxRecDepth 100000 in
/-- What the walk gives, for every argument and every world. -/
theorem contract (H : Type) (enc : TypeId × Value → H) (W : World) (base : Nat) (args : Array Value) (ds gs : List (DataW H)) (before : List MemPlace)
    (hval : ∀ (j : Nat) t v, Tryz.f6.params[j]? = some t → args[j]? = some v → Value.okWide Tryz.prog W .any base t v)
    (hW : DataW.Whole enc Tryz.prog Tryz.f6.params.toList Rows.fnCodePointSpec.vars false W args.toList ds gs before) :
    Calls Tryz.prog 6 args W fun e W' => ∃ v, e = .returned v ∧ Rows.fnCodePointSpec.post enc Tryz.prog Tryz.f6 false true false false W args v W' := by
  have hW' := hW
  obtain ⟨p, q, hA0, hV, rfl, hfz, hnd⟩ := hW
  have hAk := hA0
  have hA : DataW.TrodAll enc Tryz.prog W 0 (fun _ => true) true Tryz.f6.params.toList args.toList ds p := hA0
  rw [Tryz.params6] at hA hval
  obtain ⟨v0, vs0, d0, ds0, p0, q0, hargs0, rfl, rfl, h0, r0⟩ := trodAll_cons hA
  obtain ⟨v1, vs1, d1, ds1, p1, q1, rfl, rfl, rfl, h1, r1⟩ := trodAll_cons r0
  obtain ⟨rfl, rfl, rfl⟩ := trodAll_nil r1
  obtain rfl : args = #[v0, v1] := by cases args; simp_all
  obtain ⟨rfl, rfl⟩ := trodVars_none hV
  obtain ⟨a0, rfl, ha0⟩ := open_word Tryz.underlying38 (hval 0 38 v0 rfl rfl) h0
  obtain ⟨b1, rfl, _, _⟩ := open_bool Tryz.underlying4 (hval 1 4 v1 rfl rfl) h1
  have hlaw := law_cp a0 b1 W ha0
  refine hlaw.mono fun e W' ⟨he, hg⟩ => ?_
  subst he
  exact ⟨_, rfl, post_true hW' hAk rfl rfl rfl rfl rfl rfl (by rw [Tryz.params6]; intro t ht; simp at ht; rcases ht with rfl | rfl; (· exact ⟨read0, lt0⟩); exact ⟨read1, lt1⟩) hg⟩

theorem reads (os : Os) {H : Type} (enc : TypeId × Value → H) : ∃ places, DataW.whole enc Tryz.prog ((laidWorld os).forCall (fun _ _ => 0) ⟨#[], #[.int .u32 0, .bool false], []⟩).memory Tryz.f6.params.toList Rows.fnCodePointSpec.vars false #[Value.int .u32 0, Value.bool false].toList 8 = some ([.lit (.int .u32 0), .lit (.bool false)], [], places) :=
  ⟨[], by kernel_rfl⟩

set_option maxRecDepth 100000 in
theorem lifted (os : Os) (started : os.Started) (H : Type) (enc : TypeId × Value → H) (F : Stop.Interp) :
    ReturnsInHanded {} Tryz.checked os 6 .any ((OpenSpec.ofChange Rows.fnCodePointSpec).preRow enc Tryz.prog Tryz.f6 Rows.fnCodePointRow.domain false Rows.fnCodePointRow.laid) (((OpenSpec.ofChange Rows.fnCodePointSpec).at F).post enc Tryz.prog Tryz.f6 false true false false) := by
  obtain ⟨places, hx⟩ := reads os enc
  refine returnsInHanded_of_row (C := Tryz.checked) (s := OpenSpec.ofChange Rows.fnCodePointSpec) own started (by kernel_rfl) Tryz.func6
    (witness_row_atRef (enc := enc) (C := Tryz.checked) false (laidWorld os) #[.int .u32 0, .bool false] rfl (by kernel_rfl) (by kernel_rfl) (by kernel_rfl)
      (OpenSpec.preRow_of_cond 8 hx (by kernel_rfl) (fun k hk => by cases hk) (by kernel_rfl) (laid_met os _))) ?_
  intro W base args ds gs before hval hW _ _ _ _ _ _
  exact contract H enc W base args ds gs before hval hW

theorem said : Rows.FnCodePointSaid :=
  OpenClaim.holds_of_cond 6 Tryz.f6 rfl rfl rfl rfl rfl rfl rfl ⟨rfl, rfl, rfl, rfl, rfl⟩ rfl rfl rfl rfl rfl named Tryz.func6 closed inst wrap
    (fun os started H enc _ F => by rw [OpenClaim.pre_eq_preRow]; exact lifted os started H enc F)

theorem plain (f : FuncId) (fn : Func) (hf : Tryz.pinned.checked.prog.funcNamed "pub-paratext/laws.FnCodePoint" = some f) (hfn : Tryz.pinned.checked.prog.funcs[f]? = some fn) :
    true = Tryz.pinned.checked.prog.looks [] ∧ ∀ (j : Nat) t, fn.params[j]? = some t → Tryz.pinned.checked.prog.wantsStandIn t = false := by
  obtain rfl : f = 6 := Option.some.inj (named.symm.trans hf) |>.symm
  obtain rfl : fn = Tryz.f6 := (Option.some.inj (Tryz.func6.symm.trans hfn)).symm
  refine ⟨looks, fun j t ht => ?_⟩
  rw [Tryz.params6] at ht
  have h : t = 38 ∨ t = 4 := by simpa using Array.mem_of_getElem? ht
  rcases h with rfl | rfl
  · exact noStand0
  · exact noStand1

theorem card : Rows.FnCodePointCardSaid :=
  Claim7.holds_tied_plain_at .later [] _ _ _ _ said (fun _ h => by cases h) wfBy (fun _ h => by cases h) fnCodePoint_row_tie rfl ⟨rfl, rfl⟩ mainIs rfl plain goes
end Go.Proofs.YtpojmloeadodhaaGreatDoor.fnCodePoint
