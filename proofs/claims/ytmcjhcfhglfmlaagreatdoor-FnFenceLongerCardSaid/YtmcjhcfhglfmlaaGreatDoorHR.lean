/- A thematic break's line is known as one. -/
import Derived.Test.YtmcjhcfhglfmlaaGreatDoorLine
namespace Go.Proofs.YtmcjhcfhglfmlaaGreatDoor
open Go.RowKit
/-- How many bytes c lie in [a, b). -/
def cntB (s : ByteArray) (c : Int) (a : Nat) : Nat → Nat
  | 0 => 0
  | b + 1 => cntB s c a b + (if a ≤ b ∧ bt s b = c then 1 else 0)
theorem cntB_skip (s : ByteArray) (c : Int) (a p : Nat) : ∀ q, p ≤ q → (∀ k, p ≤ k → k < q → bt s k ≠ c) → cntB s c a q = cntB s c a p := by
  intro q
  induction q with
  | zero => intro h _; obtain rfl : p = 0 := by omega
            rfl
  | succ q ih =>
    intro h hn
    rcases Nat.lt_or_ge q p with h1 | h1
    · obtain rfl : p = q + 1 := by omega
      rfl
    · show cntB s c a q + _ = _
      rw [ih h1 (fun k a b => hn k a (by omega)), if_neg (fun e => hn q h1 (by omega) e.2)]
      rfl
theorem cntB_one (s : ByteArray) (c : Int) (a p : Nat) (h : a ≤ p) (hc : bt s p = c) : cntB s c a (p + 1) = cntB s c a p + 1 := by
  show _ + (if _ then 1 else 0) = _
  rw [if_pos ⟨h, hc⟩]
theorem cntB_self (s : ByteArray) (c : Int) (a : Nat) : cntB s c a a = 0 := by
  have h : ∀ b, b ≤ a → cntB s c a b = 0 := by
    intro b
    induction b with
    | zero => intro _; rfl
    | succ b ih =>
      intro h
      show cntB s c a b + _ = 0
      rw [ih (by omega), if_neg (by omega)]
  exact h a (Nat.le_refl _)
def HRR (b j : Nat) (c tb nl : Int) (s : ByteArray) (B : Nat) (w0 : World) (t5 : Value) (wr : World) : Prop :=
  ∃ p : Nat, j ≤ p ∧ p ≤ s.size ∧ t5 = .int .i64 (cntB s c j p) ∧ (p < s.size → bt s p = c) ∧ cntB s c j p ≤ p ∧ IsLn wr b p tb s nl ∧ Below B w0 wr
set_option maxHeartbeats 1600000 in
theorem isHR_yes (i j : Nat) (c tb nl : Int) (s : ByteArray) (w : World) (hs : s.size ≤ 140737488355328) (hij : i ≤ j) (hj3 : j ≤ i + 3) (hsp : ∀ k, i ≤ k → k < j → bt s k = 32) (hjs : j < s.size) (hc : bt s j = c) (hcc : c = 42 ∨ c = 45 ∨ c = 95)
    (hall : ∀ k, j ≤ k → k < s.size → bt s k = c ∨ bt s k = 32) (ht : ∀ k, bt s k ≠ 9) (h3 : 3 ≤ cntB s c j s.size) :
    Calls Tryz.prog 140 #[.agg #[.int .i64 0, .int .i64 i, .int .i64 tb, .string s, .int .u8 nl]] w fun e w' => e = .returned (.bool true) ∧ Below w.heap.size w w' := by
  have HSP := hid hsp
  have HALL := hid hall
  have HT := hid ht
  have HC := hid hc
  have H3 := hid h3
  clear hsp hall ht hc h3
  go_enter Tryz.func140, Tryz.ntmps140
  go_wp2_with fail
  refine (trimSp_any _ i 0 3 false tb nl s _ (Blk.new' (by simp)) hs (by omega) HT.out (by omega) (by omega)).mono ?_
  rintro e w1 ⟨j', h1, h2, h3, h4, h5, h6, hm⟩
  have hjj : j' = j := by
    rcases Nat.lt_trichotomy j' j with h | h | h
    · exact absurd (HSP.out j' h1 h) (h5 (by omega) (by omega))
    · exact h
    · have := h4 j hij h
      rw [HC.out] at this
      omega
  subst hjj
  rcases h6 with ⟨rfl, _, hln⟩ | ⟨_, hbad, _⟩
  · have HLN := hid hln
    have HM := hid hm
    clear hln hm h4 h5
    go_wp2_with fail
    refine (peek_any _ j' tb nl s _ HLN.out hs).mono ?_
    rintro e w2 ⟨rfl, n2, rfl⟩
    rw [HC.out]
    have hbel : Below w.heap.size w (w1.drewN n2) := below_drewN ((((Below.refl _ _).alloc (Nat.le_refl _) _).alloc (by simp) _).trans (Mod.toBelow HM.out (by simp; omega) (fun k hk h => by omega))) n2
    have hln2 : IsLn (w1.drewN n2) (w.heap.size + 1) j' tb s nl := HLN.out.drewN n2
    have hlt := Blk.lt hln2
    clear HM HLN
    generalize w1.drewN n2 = wa at hbel hln2 hlt ⊢
    have HB := hid hbel
    have HL := hid hln2
    clear hbel hln2
    rcases hcc with rfl | rfl | rfl
    all_goals
      go_wp2_with fail
      go_loopw [5] (fun t5 wr => HRR (w.heap.size + 1) j' _ tb nl s w.heap.size w t5 wr) (fun _ wr => s.size - lnI wr (w.heap.size + 1))
      case atStart => exact ⟨j', Nat.le_refl _, by omega, by rw [cntB_self]; rfl, fun _ => HC.out, by rw [cntB_self]; omega, HL.out, HB.out⟩
      case round =>
        obtain ⟨p, hjp, hps, rfl, hpc, hcp, hln, hb⟩ := hrel
        have HLN := hid hln
        have HB1 := hid hb
        have HPC := hid hpc
        clear hln hb hpc
        by_cases hp : p < s.size
        · go_wp2_with fail
          refine (trim_yes _ p _ tb nl s _ HLN.out hs hp (HPC.out hp)).mono ?_
          rintro e w3 ⟨rfl, hl3, hm3⟩
          have HL3 := hid hl3
          have HM3 := hid hm3
          clear hl3 hm3
          go_wp2_with fail
          refine (skip_any _ (p + 1) tb nl s _ HL3.out hs (by omega)).mono ?_
          rintro e w4 ⟨rfl, q, h1q, h2q, h3q, h4q, hl4, hm4⟩
          have hcnt := (cntB_skip s _ j' (p + 1) q h1q (fun k a b e => by rcases h3q k a b with h | h <;> rw [h] at e <;> cases e)).trans (cntB_one s _ j' p hjp (HPC.out hp))
          have hq := fun h : q < s.size => (HALL.out q (by omega) h).resolve_right (fun e => h4q h (.inl e))
          have HQ := hid hq
          have HL4 := hid hl4
          have HM4 := hid hm4
          clear hq hl4 hm4 h3q h4q
          go_wp2_with fail
          go_roundw
          case rel => exact ⟨q, by omega, h2q, by rw [hcnt]; go_num, HQ.out, by omega, HL4.out, (HB1.out.trans (Mod.toBelow HM3.out (HB1.out.size) (fun k hk h => by omega))).trans (Mod.toBelow HM4.out (Nat.le_trans HB1.out.size HM3.out.size) (fun k hk h => by omega))⟩
          case measure => rw [lnI_of HL4.out, lnI_of HLN.out]; omega
        · obtain rfl : p = s.size := by omega
          have h3c := H3.out
          go_wp2_with fail
          refine (trim_no _ s.size _ tb nl s _ HLN.out hs (.inl (Nat.le_refl _))).mono ?_
          rintro e w3 ⟨rfl, n3, rfl⟩
          go_wp2_with fail
          refine (eof_any _ s.size tb nl s _ (HLN.out.drewN n3) hs).mono ?_
          rintro e w4 ⟨rfl, n4, rfl⟩
          go_wp2_with fail
          go_ret
          exact ⟨ret_bool (by simp), below_drewN HB1.out _⟩
  · omega
end Go.Proofs.YtmcjhcfhglfmlaaGreatDoor
