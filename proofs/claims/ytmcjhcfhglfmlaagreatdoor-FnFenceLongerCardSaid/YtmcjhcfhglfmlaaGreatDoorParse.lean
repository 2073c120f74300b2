/- A parse, whatever its lines do. -/
import Derived.Test.YtmcjhcfhglfmlaaGreatDoorStack
namespace Go.Proofs.YtmcjhcfhglfmlaaGreatDoor
open Go.RowKit
/-- A parseState as a parse begins. -/
def ps0 (pb : Nat) : PSr := ⟨pb, none, none, 0, Sl.nil, -1, false, ⟨#[]⟩, 0, Sl.nil, Sl.nil, Sl.nil, List.replicate 80 (.int .i64 0) ++ [.bool false]⟩
theorem zero_ps (pb : Nat) : (Tryz.zeroCells95.setIfInBounds 0 (.pointer (some ⟨pb, 0, none⟩))).setIfInBounds 5 (.int .i64 (-1)) = (ps0 pb).cells.toArray := by kernel_rfl
structure ParseH (pb g : Nat) (ta : Option Addr) (m : Nat) (Inv : List UInt8 → Nat → World → Prop) (Fin : Nat → World → Prop) (L : Nat) : Prop where
  line : ∀ l n w, Inv l n w → l ≠ [] → l.length ≤ L → (∃ r, IsPS w g r ∧ r.lineno = n) ∧ n + l.length ≤ 1000000 ∧
    Calls Tryz.prog 57 #[.pointer (some ⟨g, 0, none⟩), .agg #[.int .i64 0, .int .i64 0, .int .i64 0, .string ⟨(nextLine l).1.toArray⟩, .int .u8 (nextLine l).2.1]] (w.setCell ⟨g, 3, none⟩ (.int .i64 ((n : Int) + 1)))
      (fun e w' => e = .returned (.tuple #[]) ∧ Inv (nextLine l).2.2 (n + 1) w')
  drew : ∀ l n w k, Inv l n w → Inv l n (w.drewN k)
  trim : ∀ n w, Inv [] n w → Calls Tryz.prog 58 #[.pointer (some ⟨g, 0, none⟩), .int .i64 0] w (fun e w' => e = .returned (.tuple #[]) ∧ Fin 0 w')
  at_ : ∀ k w, Fin k w → m ≤ 1000000 ∧ ∃ r c, IsPS w g r ∧ r.texts = ⟨ta, m, c⟩ ∧ w.cell? ⟨pb, 2, none⟩ = some (.bool false)
  text : ∀ k w, Fin k w → k < m → ∃ ab ao tb raw, ta = some ⟨ab, ao, none⟩ ∧ w.cell? ⟨ab, ao + k, none⟩ = some (.pointer (some ⟨tb, 0, none⟩)) ∧ w.cell? ⟨tb, 3, none⟩ = some (.string raw) ∧
    Calls Tryz.prog 59 #[.pointer (some ⟨g, 0, none⟩), .string raw] w (fun e w' => ∃ a n c, e = .returned (.slice a n c) ∧ (∃ v, w'.cell? ⟨tb, 2, none⟩ = some v) ∧ w'.frozen? ⟨tb, 2, none⟩ = false ∧ Fin (k + 1) (w'.setCell ⟨tb, 2, none⟩ (.slice a n c)))

def ParseP (g m : Nat) (Fin : Nat → World → Prop) (e : Ending) (w' : World) : Prop := ∃ r k, e = .returned (.tuple #[.pointer r.root, .bool r.corner]) ∧ IsPS w' g r ∧ ∃ w0, Fin m w0 ∧ w' = w0.drewN k

def strLen : Value → Nat | .string s => s.size | _ => 0
def LoopR (Inv : List UInt8 → Nat → World → Prop) (L : Nat) (t : Value) (wr : World) : Prop := ∃ l n, t = .string ⟨l.toArray⟩ ∧ l.length ≤ L ∧ Inv l n wr
def TextR (Fin : Nat → World → Prop) (m : Nat) (i : Value) (wr : World) : Prop := ∃ k : Nat, k ≤ m ∧ i = .int .i64 k ∧ Fin k wr
def CutR (l : List UInt8) (wr : World) (t ln nl : Value) (wx : World) : Prop := t = .string ⟨(nextLine l).2.2.toArray⟩ ∧ ln = .string ⟨(nextLine l).1.toArray⟩ ∧ nl = .int .u8 (nextLine l).2.1 ∧ ∃ k, wx = wr.drewN k
set_option maxRecDepth 20000 in
set_option maxHeartbeats 4000000 in
theorem parse_gen (pb : Nat) (l0 : List UInt8) (w : World) (ta : Option Addr) (m : Nat) (Inv : List UInt8 → Nat → World → Prop) (Fin : Nat → World → Prop) (hl : l0.length ≤ 1000000)
    (hno : idxB 0 l0 = -1)
    (H : ParseH pb w.heap.size ta m Inv Fin l0.length)
    (h0 : ∀ w' bn, IsPS w' w.heap.size (ps0 pb) → Below w.heap.size w w' →
      Calls Tryz.prog 55 #[.pointer (some ⟨w.heap.size, 0, none⟩), .iface 98 (.pointer (some ⟨bn, 0, none⟩))] w' (fun e w1 => e = .returned (.tuple #[]) ∧ Inv l0 0 w1)) :
    Calls Tryz.prog 46 #[.pointer (some ⟨pb, 0, none⟩), .string ⟨l0.toArray⟩] w (ParseP w.heap.size m Fin) := by
  have HH := hid H
  have H0 := hid h0
  clear H h0
  have hno' : (0 ≤ idxB 0 l0) = False := by rw [hno]; simp
  go_enter Tryz.func46, Tryz.ntmps46
  go_wp2_with (first | (go_at_call 53; refine (zzContains1 ⟨l0.toArray⟩ 0 _ (bsz (by omega))).mono ?_; rintro e w' ⟨rfl, rfl⟩))
  go_wp2_with fail
  refine (H0.out _ (w.heap.size + 1) ?_ ?_).mono ?_
  · rw [zero_ps]; exact Blk.alloc (Blk.new _ _ _) _
  · exact ((Below.refl _ _).alloc (Nat.le_refl _) _).alloc (by simp) _
  rintro e w1 ⟨rfl, hinv⟩
  have HI := hid hinv
  clear hinv
  go_wp2_with fail
  go_loopw [1] (fun t wr => LoopR Inv l0.length t wr) (fun t _ => strLen t)
  case atStart => exact ⟨l0, 0, rfl, Nat.le_refl _, HI.out⟩
  case round =>
    obtain ⟨l, n, rfl, hll, hinv⟩ := hrel
    have HV := hid hinv
    clear hinv
    by_cases hnil : l = []
    · subst hnil
      go_wp2_with (go_at_call 58; refine (HH.out.trim n wr HV.out).mono ?_; rintro e w2 ⟨rfl, hfin⟩; have HF := hid hfin; clear hfin; obtain ⟨hm, r, c, hps, htx, hpar⟩ := HH.out.at_ 0 w2 HF.out; have c11 := hps.c11; rw [htx] at c11; have HTX := hid htx; clear htx)
      go_loopw [83] (fun i wr => TextR Fin m i wr) (fun i _ => m - (intOf i).toNat)
      case atStart => exact ⟨0, Nat.zero_le _, rfl, HF.out⟩
      case round =>
        clear c11 hpar hps
        obtain ⟨k, hk, rfl, hfin⟩ := hrel
        obtain ⟨_, r1, c1, hps1, htx1, hpar1⟩ := HH.out.at_ k wr hfin
        have HF1 := hid hfin
        have HT1 := hid htx1
        clear hfin htx1
        by_cases hkm : k < m
        · obtain ⟨ab, ao, tb, raw, hta, ca, cb, hc⟩ := HH.out.text k wr HF1.out hkm
          subst hta
          have HC := hid hc
          clear hc
          go_wp2_with (go_at_call 59; refine HC.out.mono ?_; rintro e w3 ⟨a3, n3, c3, rfl, ⟨v3, cv3⟩, fv3, hfin3⟩; have HF3 := hid hfin3; clear hfin3)
          go_roundw
          case rel => exact ⟨k + 1, by omega, by go_num, HF3.out⟩
          case measure => simp [intOf]; omega
        · obtain rfl : k = m := by omega
          have c1 := hps1.c1
          have c6 := hps1.c6
          have c0 := hps1.c0
          have HP1 := hid hps1
          clear hps1
          go_wp2
          go_quiet (fail)
          go_wp2
          go_ret2
          exact ⟨r1, _, rfl, HP1.out.drewN _, _, HF1.out, rfl⟩
    · have hne : l.isEmpty = false := by cases l with | nil => exact absurd rfl hnil | cons a b => rfl
      have HNIL := hid hnil
      clear hnil
      go_upto_block 2 with (first | (go_at_call 56; refine (zzIndex1 ⟨l.toArray⟩ _ _ (bsz (by omega))).mono ?_; rintro e w' ⟨rfl, rfl⟩))
      have bi := idxB_lt l 10
      have bj := idxB_lt l 13
      have NL := hid (show nextLine l = _ from rfl)
      go_cut [1, 7, 10] (fun t ln nl wx => CutR l wr t ln nl wx)
      case first =>
        by_cases h1 : 0 ≤ idxB 13 l
        · by_cases h2 : idxB 10 l < 0
          · have HN := hid (show nextLine l = (l.take (idxB 13 l).toNat, 13, l.drop ((idxB 13 l).toNat + 1)) by unfold nextLine; rw [if_pos ⟨h1, .inl h2⟩, if_neg (by omega)])
            have h3 : ¬ idxB 10 l = idxB 13 l + 1 := by omega
            go_wp2
            go_meet
            case rel => exact ⟨by rw [HN.out, show (idxB 13 l + 1).toNat = (idxB 13 l).toNat + 1 from by omega, ex_from], by rw [HN.out, ex_to], by rw [HN.out]; rfl, 0, rfl⟩
          · by_cases h3 : idxB 13 l < idxB 10 l
            · by_cases h4 : idxB 10 l = idxB 13 l + 1
              · have HN := hid (show nextLine l = (l.take (idxB 13 l).toNat, 23, l.drop ((idxB 13 l).toNat + 2)) by unfold nextLine; rw [if_pos ⟨h1, .inr h3⟩, if_pos h4])
                have H4 := hid h4
                have h5 : (idxB 10 l == idxB 13 l + 1) = true := by simpa using h4
                clear h4
                have h6 : idxB 13 l + 2 ≤ l.length := by have := H4.out; omega
                go_wp2
                go_meet
                case rel => exact ⟨by rw [HN.out, show (idxB 13 l + 2).toNat = (idxB 13 l).toNat + 2 from by omega, ex_from], by rw [HN.out, ex_to], by rw [HN.out]; rfl, 0, rfl⟩
              · have HN := hid (show nextLine l = (l.take (idxB 13 l).toNat, 13, l.drop ((idxB 13 l).toNat + 1)) by unfold nextLine; rw [if_pos ⟨h1, .inr h3⟩, if_neg h4])
                go_wp2
                go_meet
                case rel => exact ⟨by rw [HN.out, show (idxB 13 l + 1).toNat = (idxB 13 l).toNat + 1 from by omega, ex_from], by rw [HN.out, ex_to], by rw [HN.out]; rfl, 0, rfl⟩
            · have HN := hid (show nextLine l = (l.take (idxB 10 l).toNat, 10, l.drop ((idxB 10 l).toNat + 1)) by unfold nextLine; rw [if_neg (by omega), if_pos (by omega)])
              go_wp2
              go_quiet (fail)
              go_wp2
              go_meet
              case rel => exact ⟨by rw [HN.out, show (idxB 10 l + 1).toNat = (idxB 10 l).toNat + 1 from by omega, ex_from], by rw [HN.out, ex_to], by rw [HN.out]; rfl, _, rfl⟩
        · by_cases h2 : 0 ≤ idxB 10 l
          · have HN := hid (show nextLine l = (l.take (idxB 10 l).toNat, 10, l.drop ((idxB 10 l).toNat + 1)) by unfold nextLine; rw [if_neg (by omega), if_pos h2])
            go_wp2
            go_quiet (fail)
            go_wp2
            go_meet
            case rel => exact ⟨by rw [HN.out, show (idxB 10 l + 1).toNat = (idxB 10 l).toNat + 1 from by omega, ex_from], by rw [HN.out, ex_to], by rw [HN.out]; rfl, _, rfl⟩
          · have HN := hid (show nextLine l = (l, 0, []) by unfold nextLine; rw [if_neg (by omega), if_neg h2])
            go_wp2
            go_meet
            case rel => exact ⟨by rw [HN.out], by rw [HN.out], by rw [HN.out]; rfl, 0, rfl⟩
      case rest =>
        obtain ⟨rfl, rfl, rfl, k, rfl⟩ := hcut
        obtain ⟨⟨r, hps, hln⟩, hb, hc⟩ := HH.out.line l n _ (HH.out.drew l n wr k HV.out) HNIL.out (by omega)
        have c3 := hps.c3
        rw [hln] at c3
        have f1 := hps.free
        have HC := hid hc
        have NR := nextLine_rest l HNIL.out
        clear hc hln
        go_wp2_with (go_at_call 57; refine HC.out.mono ?_; rintro e w2 ⟨rfl, hinv2⟩; have HI2 := hid hinv2; clear hinv2)
        go_roundw
        case rel => exact ⟨_, n + 1, rfl, by omega, HI2.out⟩
        case measure => show (nextLine l).2.2.toArray.size < l.toArray.size; simpa using NR

end Go.Proofs.YtmcjhcfhglfmlaaGreatDoor
