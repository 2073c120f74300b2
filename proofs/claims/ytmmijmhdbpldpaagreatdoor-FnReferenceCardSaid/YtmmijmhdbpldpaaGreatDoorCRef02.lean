/- Texts of this proof, joined: A line without tabs: what its small methods do, A thematic break's line is known as one, The block starters that decline a line. -/
import Derived.Test.YtmmijmhdbpldpaaGreatDoorCRef01
import Derived.Test.YtmmijmhdbpldpaaGreatDoorProg
/- A line without tabs: what its small methods do. -/



namespace Go.Proofs.YtmmijmhdbpldpaaGreatDoor
open Go.RowKit
/-- The cells of a line with no pending spaces. -/
def lnC (i : Nat) (tb : Int) (s : ByteArray) (nl : Int) : Array Value := #[.int .i64 0, .int .i64 i, .int .i64 tb, .string s, .int .u8 nl]
def IsLn (w : World) (g i : Nat) (tb : Int) (s : ByteArray) (nl : Int) : Prop := Blk w g 104 (lnC i tb s nl)
namespace IsLn
variable {w w' : World} {g i : Nat} {tb nl : Int} {s : ByteArray} {S : Nat → Prop}
theorem c0 (h : IsLn w g i tb s nl) : w.cell? ⟨g, 0, none⟩ = some (.int .i64 0) := Blk.at_ h 0 rfl
theorem c1 (h : IsLn w g i tb s nl) : w.cell? ⟨g, 1, none⟩ = some (.int .i64 i) := Blk.at_ h 1 rfl
theorem c2 (h : IsLn w g i tb s nl) : w.cell? ⟨g, 2, none⟩ = some (.int .i64 tb) := Blk.at_ h 2 rfl
theorem c3 (h : IsLn w g i tb s nl) : w.cell? ⟨g, 3, none⟩ = some (.string s) := Blk.at_ h 3 rfl
theorem c4 (h : IsLn w g i tb s nl) : w.cell? ⟨g, 4, none⟩ = some (.int .u8 nl) := Blk.at_ h 4 rfl
theorem set1 (h : IsLn w g i tb s nl) (j : Nat) : IsLn (w.setCell ⟨g, 1, none⟩ (.int .i64 j)) g j tb s nl := Blk.set_ h 1 _
theorem drewN (h : IsLn w g i tb s nl) (n : Nat) : IsLn (w.drewN n) g i tb s nl := h
theorem mod (h : IsLn w g i tb s nl) (hm : Mod S w w') (hn : ¬ S g) : IsLn w' g i tb s nl := Blk.mod h hm hn
end IsLn
theorem IsLn.store {w : World} {g i : Nat} {tb nl : Int} {s : ByteArray} (h : IsLn w g i tb s nl) (j : Nat) : IsLn (((((w.setCell ⟨g, 0, none⟩ (.int .i64 0)).setCell ⟨g, 1, none⟩ (.int .i64 j)).setCell ⟨g, 2, none⟩ (.int .i64 tb)).setCell ⟨g, 3, none⟩ (.string s)).setCell ⟨g, 4, none⟩ (.int .u8 nl)) g j tb s nl := by
  have h' := (((((Blk.set_ h 0 (.int .i64 0)).set_ 1 (.int .i64 j)).set_ 2 (.int .i64 tb)).set_ 3 (.string s)).set_ 4 (.int .u8 nl))
  simpa [lnC, IsLn] using h'
set_option maxHeartbeats 400000 in
theorem peek_any (g i : Nat) (tb nl : Int) (s : ByteArray) (w : World) (h : IsLn w g i tb s nl) (_ : s.size ≤ 140737488355328) :
    Calls Tryz.prog 175 #[.pointer (some ⟨g, 0, none⟩)] w fun e w' => e = .returned (.int .u8 (bt s i)) ∧ ∃ n, w' = w.drewN n := by
  have h0 := h.c0
  have h1 := h.c1
  have h3 := h.c3
  have hb := get_bt s
  clear h
  by_cases hi : i < s.size
  · go_enter Tryz.func175, Tryz.ntmps175
    go_wp2
    go_quiet (fail)
    go_wp2
    go_quiet (fail)
    go_wp2
    go_ret
    exact ⟨rfl, _, World.drewN_drewN _ _ _⟩
  · have hz : bt s i = 0 := by unfold bt; rw [dif_neg hi]
    rw [hz]
    go_enter Tryz.func175, Tryz.ntmps175
    go_wp2
    go_quiet (fail)
    go_wp2
    go_ret
    exact ⟨rfl, _, rfl⟩
set_option maxHeartbeats 400000 in
theorem eof_any (g i : Nat) (tb nl : Int) (s : ByteArray) (w : World) (h : IsLn w g i tb s nl) (_ : s.size ≤ 140737488355328) :
    Calls Tryz.prog 177 #[.pointer (some ⟨g, 0, none⟩)] w fun e w' => e = .returned (.bool (decide (s.size ≤ i))) ∧ ∃ n, w' = w.drewN n := by
  have h1 := h.c1
  have h3 := h.c3
  clear h
  go_enter Tryz.func177, Tryz.ntmps177
  go_wp2
  go_quiet (fail)
  go_wp2
  go_ret
  refine ⟨ret_bool ?_, _, rfl⟩
  simp
set_option maxHeartbeats 800000 in
theorem trim_yes (g i : Nat) (c tb nl : Int) (s : ByteArray) (w : World) (h : IsLn w g i tb s nl) (hs : s.size ≤ 140737488355328) (hi : i < s.size) (hc : bt s i = c) :
    Calls Tryz.prog 173 #[.pointer (some ⟨g, 0, none⟩), .int .u8 c] w fun e w' => e = .returned (.bool true) ∧ IsLn w' g (i + 1) tb s nl ∧ Mod (fun k => k = g) w w' := by
  have h0 := h.c0
  have h1 := h.c1
  have h3 := h.c3
  have f1 := Blk.free h 1
  have hb := get_bt s
  have H := hid h
  clear h
  subst hc
  go_enter Tryz.func173, Tryz.ntmps173
  go_wp2
  go_quiet (fail)
  go_wp2
  go_ret
  exact ⟨rfl, (H.out.drewN _).set1 (i + 1), ((Mod.refl (fun k => k = g) w).drewN _).setCell (.inl rfl) _⟩
set_option maxHeartbeats 800000 in
theorem trim_no (g i : Nat) (c tb nl : Int) (s : ByteArray) (w : World) (h : IsLn w g i tb s nl) (_ : s.size ≤ 140737488355328) (hc : s.size ≤ i ∨ bt s i ≠ c) :
    Calls Tryz.prog 173 #[.pointer (some ⟨g, 0, none⟩), .int .u8 c] w fun e w' => e = .returned (.bool false) ∧ ∃ n, w' = w.drewN n := by
  have h0 := h.c0
  have h1 := h.c1
  have h3 := h.c3
  have hb := get_bt s
  clear h
  by_cases hi : i < s.size
  · have hb2 : (bt s i == c) = false := by rcases hc with hc | hc; (· omega); simpa using hc
    go_enter Tryz.func173, Tryz.ntmps173
    go_wp2
    go_quiet (fail)
    go_wp2
    go_ret
    exact ⟨rfl, _, rfl⟩
  · clear hc
    go_enter Tryz.func173, Tryz.ntmps173
    go_wp2
    go_quiet (fail)
    go_wp2
    go_ret
    exact ⟨rfl, _, rfl⟩
/-- Space or tab. -/
def stAt (s : ByteArray) (k : Nat) : Prop := bt s k = 32 ∨ bt s k = 9
def SkipR (g i : Nat) (tb nl : Int) (s : ByteArray) (w0 wr : World) : Prop :=
  ∃ j, i ≤ j ∧ j ≤ s.size ∧ (∀ k, i ≤ k → k < j → stAt s k) ∧ IsLn wr g j tb s nl ∧ Mod (fun k => k = g) w0 wr
def SkipP (g i : Nat) (tb nl : Int) (s : ByteArray) (w0 wr : World) : Prop :=
  ∃ j, i ≤ j ∧ j ≤ s.size ∧ (∀ k, i ≤ k → k < j → stAt s k) ∧ (j < s.size → ¬ stAt s j) ∧ IsLn wr g j tb s nl ∧ Mod (fun k => k = g) w0 wr
/-- The line's index, read off the world. -/
def lnI (w : World) (g : Nat) : Nat := match w.cell? ⟨g, 1, none⟩ with
  | some v => (intOf v).toNat
  | none => 0
theorem lnI_of {w : World} {g i : Nat} {tb nl : Int} {s : ByteArray} (h : IsLn w g i tb s nl) : lnI w g = i := by
  unfold lnI; rw [h.c1]; simp [intOf]
set_option maxHeartbeats 1600000 in
theorem skip_any (g i : Nat) (tb nl : Int) (s : ByteArray) (w : World) (h : IsLn w g i tb s nl) (hs : s.size ≤ 140737488355328) (hi : i ≤ s.size) :
    Calls Tryz.prog 176 #[.pointer (some ⟨g, 0, none⟩)] w fun e w' => e = .returned (.tuple #[]) ∧ SkipP g i tb nl s w w' := by
  have h0 := h.c0
  have f0 := Blk.free h 0
  have H := hid h
  have hb := get_bt s
  clear h
  go_enter Tryz.func176, Tryz.ntmps176
  go_wp2_with fail
  go_loopw [] (fun wr => SkipR g i tb nl s w wr) (fun wr => s.size - lnI wr g)
  case atStart => exact ⟨i, Nat.le_refl _, hi, fun k h1 h2 => absurd h1 (by omega), Blk.set_ H.out 0 _, (Mod.refl (fun k => k = g) w).setCell (.inl rfl) _⟩
  case round =>
    obtain ⟨j, hij, hjs, hst, hln, hm⟩ := hrel
    have h1 := hln.c1
    have h3 := hln.c3
    have f1 := Blk.free hln 1
    have HST := hid hst
    have HLN := hid hln
    have HM := hid hm
    clear hst hln hm
    by_cases hlt : j < s.size
    · by_cases hsp : stAt s j
      · have fin : ∀ n, SkipR g i tb nl s w ((wr.drewN n).setCell ⟨g, 1, none⟩ (.int .i64 ((j : Int) + 1))) := fun n =>
          ⟨j + 1, by omega, by omega, fun k h1 h2 => by
            rcases Nat.lt_or_ge k j with h | h
            · exact HST.out k h1 h
            · obtain rfl : k = j := by omega
              exact hsp, (HLN.out.drewN n).set1 (j + 1), (HM.out.drewN n).setCell (.inl rfl) _⟩
        have mea : ∀ n, lnI ((wr.drewN n).setCell ⟨g, 1, none⟩ (.int .i64 ((j : Int) + 1))) g = j + 1 := fun n => lnI_of ((HLN.out.drewN n).set1 (j + 1))
        have mea0 := lnI_of HLN.out
        have FIN := hid fin
        have ME := hid mea
        have ME0 := hid mea0
        clear fin mea mea0
        rcases hsp with hsp | hsp
        · go_wp2_with fail
          go_quiet (fail)
          go_wp2
          go_roundw
          case rel => exact FIN.out _
          case measure => rw [ME.out, ME0.out]; omega
        · go_wp2_with fail
          go_quiet (fail)
          go_wp2
          go_roundw
          case rel => exact FIN.out _
          case measure => rw [ME.out, ME0.out]; omega
      · have b1 : (bt s j == 32) = false := by simpa using fun h => hsp (.inl h)
        have b2 : (bt s j == 9) = false := by simpa using fun h => hsp (.inr h)
        go_wp2_with fail
        go_quiet (fail)
        go_wp2
        go_end0
        exact ⟨rfl, j, hij, hjs, HST.out, fun _ => hsp, HLN.out.drewN _, HM.out.drewN _⟩
    · go_wp2_with fail
      go_quiet (fail)
      go_wp2
      go_end0
      exact ⟨rfl, j, hij, hjs, HST.out, fun h => absurd h hlt, HLN.out.drewN _, HM.out.drewN _⟩
def TrimR (g b i mx : Nat) (eol : Bool) (tb nl : Int) (s : ByteArray) (w0 : World) (t10 : Value) (wr : World) : Prop :=
  ∃ n j : Nat, t10 = .int .i64 n ∧ n ≤ mx ∧ i ≤ j ∧ j ≤ i + n ∧ j ≤ s.size ∧ (∀ k, i ≤ k → k < j → bt s k = 32) ∧ (n = j - i ∨ (eol = true ∧ j = s.size)) ∧ IsLn wr b j tb s nl ∧ IsLn wr g i tb s nl ∧ Mod (fun k => k = g) w0 wr
/-- How many spaces are trimmed, and whether that is enough. -/
def TrimP (g i mn mx : Nat) (eol : Bool) (tb nl : Int) (s : ByteArray) (w0 : World) (e : Ending) (wr : World) : Prop :=
  ∃ j : Nat, i ≤ j ∧ j ≤ i + mx ∧ j ≤ s.size ∧ (∀ k, i ≤ k → k < j → bt s k = 32) ∧ (j < i + mx → j < s.size → bt s j ≠ 32) ∧
    ((e = .returned (.bool true) ∧ (mn ≤ j - i ∨ mx ≤ j - i ∨ (eol = true ∧ j = s.size)) ∧ IsLn wr g j tb s nl) ∨ (e = .returned (.bool false) ∧ j - i < mn ∧ j - i < mx ∧ (eol = false ∨ j < s.size) ∧ IsLn wr g i tb s nl)) ∧ Mod (fun k => k = g) w0 wr
set_option maxHeartbeats 1600000 in
theorem trimSp_any (g i mn mx : Nat) (eol : Bool) (tb nl : Int) (s : ByteArray) (w : World) (h : IsLn w g i tb s nl) (hs : s.size ≤ 140737488355328) (hi : i ≤ s.size) (ht : ∀ k, bt s k ≠ 9) (_ : mn ≤ 100) (hmx : mx ≤ 100) :
    Calls Tryz.prog 143 #[.pointer (some ⟨g, 0, none⟩), .int .i64 mn, .int .i64 mx, .bool eol] w (TrimP g i mn mx eol tb nl s w) := by
  have hlt := Blk.lt h
  have h0 := h.c0
  have h1 := h.c1
  have h2 := h.c2
  have h3 := h.c3
  have h4 := h.c4
  have H := hid h
  have hb := get_bt s
  have HT := hid ht
  clear h ht
  go_enter Tryz.func143, Tryz.ntmps143
  go_wp2_with fail
  go_loopw [10] (fun t10 wr => TrimR g w.heap.size i mx eol tb nl s w t10 wr) (fun t10 _ => mx - (intOf t10).toNat)
  case atStart => exact ⟨0, i, rfl, Nat.zero_le _, Nat.le_refl _, Nat.le_refl _, hi, fun k h1 h2 => absurd h1 (by omega), .inl (by omega), Blk.new' rfl, Blk.alloc H.out _, (Mod.refl (fun k => k = g) w).alloc _⟩
  case round =>
    obtain ⟨n, j, rfl, hnm, hij, hjn, hjs, hsp, hor, hlb, hlg, hm⟩ := hrel
    clear h0 h1 h2 h3 h4
    have b0 := hlb.c0
    have b1 := hlb.c1
    have b2 := hlb.c2
    have b3 := hlb.c3
    have b4 := hlb.c4
    have fb := Blk.free hlb
    have g0 := hlg.c0
    have g1 := hlg.c1
    have g2 := hlg.c2
    have g3 := hlg.c3
    have g4 := hlg.c4
    have fg := Blk.free hlg
    have hne : g ≠ w.heap.size := by omega
    have hne2 : w.heap.size ≠ g := by omega
    have HLB := hid hlb
    have HLG := hid hlg
    have HM := hid hm
    have HSP := hid hsp
    clear hlb hlg hm hsp
    by_cases hn : n < mx
    · by_cases hj : j < s.size
      · have hnj : n = j - i := by rcases hor with h | h <;> omega
        by_cases h32 : bt s j = 32
        · go_wp2
          refine ⟨⟨n + 1, j + 1, by go_num, by omega, by omega, by omega, by omega, fun k h1 h2 => ?_, .inl (by omega), HLB.out.set1 (j + 1), Blk.far HLG.out hne _, HM.out.setCell (.inr (Nat.le_refl _)) _⟩, by simp [intOf]; omega⟩
          rcases Nat.lt_or_ge k j with h | h
          · exact HSP.out k h1 h
          · obtain rfl : k = j := by omega
            exact h32
        · have c32 : (bt s j == 32) = false := by simpa using h32
          have c9 : (bt s j == 9) = false := by simpa using HT.out j
          by_cases hmin : mn ≤ n
          · go_wp2
            go_ret
            exact ⟨j, hij, by omega, hjs, HSP.out, fun _ _ => h32, .inl ⟨rfl, .inl (by omega), HLG.out.store j⟩, (((((HM.out.setCell (.inl rfl) _).setCell (.inl rfl) _).setCell (.inl rfl) _).setCell (.inl rfl) _).setCell (.inl rfl) _)⟩
          · go_wp2
            go_ret
            exact ⟨j, hij, by omega, hjs, HSP.out, fun _ _ => h32, .inr ⟨rfl, by omega, by omega, .inr hj, HLG.out⟩, HM.out⟩
      · cases eol with
        | true =>
          go_wp2
          exact ⟨⟨n + 1, j, by go_num, by omega, hij, by omega, hjs, HSP.out, .inr ⟨rfl, by omega⟩, HLB.out, HLG.out, HM.out⟩, by simp [intOf]; omega⟩
        | false =>
          have hnj : n = j - i := by rcases hor with h | h; (· exact h); cases h.1
          by_cases hmin : mn ≤ n
          · go_wp2
            go_ret
            exact ⟨j, hij, by omega, hjs, HSP.out, fun _ h => absurd h hj, .inl ⟨rfl, .inl (by omega), HLG.out.store j⟩, (((((HM.out.setCell (.inl rfl) _).setCell (.inl rfl) _).setCell (.inl rfl) _).setCell (.inl rfl) _).setCell (.inl rfl) _)⟩
          · go_wp2
            go_ret
            exact ⟨j, hij, by omega, hjs, HSP.out, fun _ h => absurd h hj, .inr ⟨rfl, by omega, by omega, .inl rfl, HLG.out⟩, HM.out⟩
    · go_wp2
      go_ret
      exact ⟨j, hij, by omega, hjs, HSP.out, fun h1 h2 => by rcases hor with h | h <;> omega, .inl ⟨rfl, by rcases hor with h | h; (· exact .inr (.inl (by omega))); exact .inr (.inr h), HLG.out.store j⟩, (((((HM.out.setCell (.inl rfl) _).setCell (.inl rfl) _).setCell (.inl rfl) _).setCell (.inl rfl) _).setCell (.inl rfl) _)⟩
end Go.Proofs.YtmmijmhdbpldpaaGreatDoor
/- A thematic break's line is known as one. -/

namespace Go.Proofs.YtmmijmhdbpldpaaGreatDoor
open Go.RowKit
/-- How many bytes c lie in [a, b). -/
def cntB (s : ByteArray) (c : Int) (a : Nat) : Nat → Nat
  | 0 => 0
  | b + 1 => cntB s c a b + (if a ≤ b ∧ bt s b = c then 1 else 0)
theorem cntB_skip (s : ByteArray) (c : Int) (a p : Nat) : ∀ q, p ≤ q → (∀ k, p ≤ k → k < q → bt s k ≠ c) → cntB s c a q = cntB s c a p := by
  intro q
  induction q with
  | zero => intro h _; obtain rfl : p = 0 := by omega
            rfl
  | succ q ih =>
    intro h hn
    rcases Nat.lt_or_ge q p with h1 | h1
    · obtain rfl : p = q + 1 := by omega
      rfl
    · show cntB s c a q + _ = _
      rw [ih h1 (fun k a b => hn k a (by omega)), if_neg (fun e => hn q h1 (by omega) e.2)]
      rfl
theorem cntB_one (s : ByteArray) (c : Int) (a p : Nat) (h : a ≤ p) (hc : bt s p = c) : cntB s c a (p + 1) = cntB s c a p + 1 := by
  show _ + (if _ then 1 else 0) = _
  rw [if_pos ⟨h, hc⟩]
theorem cntB_self (s : ByteArray) (c : Int) (a : Nat) : cntB s c a a = 0 := by
  have h : ∀ b, b ≤ a → cntB s c a b = 0 := by
    intro b
    induction b with
    | zero => intro _; rfl
    | succ b ih =>
      intro h
      show cntB s c a b + _ = 0
      rw [ih (by omega), if_neg (by omega)]
  exact h a (Nat.le_refl _)
def HRR (b j : Nat) (c tb nl : Int) (s : ByteArray) (B : Nat) (w0 : World) (t5 : Value) (wr : World) : Prop :=
  ∃ p : Nat, j ≤ p ∧ p ≤ s.size ∧ t5 = .int .i64 (cntB s c j p) ∧ (p < s.size → bt s p = c) ∧ cntB s c j p ≤ p ∧ IsLn wr b p tb s nl ∧ Below B w0 wr
set_option maxHeartbeats 1600000 in
theorem isHR_yes (i j : Nat) (c tb nl : Int) (s : ByteArray) (w : World) (hs : s.size ≤ 140737488355328) (hij : i ≤ j) (hj3 : j ≤ i + 3) (hsp : ∀ k, i ≤ k → k < j → bt s k = 32) (hjs : j < s.size) (hc : bt s j = c) (hcc : c = 42 ∨ c = 45 ∨ c = 95)
    (hall : ∀ k, j ≤ k → k < s.size → bt s k = c ∨ bt s k = 32) (ht : ∀ k, bt s k ≠ 9) (h3 : 3 ≤ cntB s c j s.size) :
    Calls Tryz.prog 137 #[.agg #[.int .i64 0, .int .i64 i, .int .i64 tb, .string s, .int .u8 nl]] w fun e w' => e = .returned (.bool true) ∧ Below w.heap.size w w' := by
  have HSP := hid hsp
  have HALL := hid hall
  have HT := hid ht
  have HC := hid hc
  have H3 := hid h3
  clear hsp hall ht hc h3
  go_enter Tryz.func137, Tryz.ntmps137
  go_wp2_with fail
  refine (trimSp_any _ i 0 3 false tb nl s _ (Blk.new' (by simp)) hs (by omega) HT.out (by omega) (by omega)).mono ?_
  rintro e w1 ⟨j', h1, h2, h3, h4, h5, h6, hm⟩
  have hjj : j' = j := by
    rcases Nat.lt_trichotomy j' j with h | h | h
    · exact absurd (HSP.out j' h1 h) (h5 (by omega) (by omega))
    · exact h
    · have := h4 j hij h
      rw [HC.out] at this
      omega
  subst hjj
  rcases h6 with ⟨rfl, _, hln⟩ | ⟨_, hbad, _⟩
  · have HLN := hid hln
    have HM := hid hm
    clear hln hm h4 h5
    go_wp2_with fail
    refine (peek_any _ j' tb nl s _ HLN.out hs).mono ?_
    rintro e w2 ⟨rfl, n2, rfl⟩
    rw [HC.out]
    have hbel : Below w.heap.size w (w1.drewN n2) := below_drewN ((((Below.refl _ _).alloc (Nat.le_refl _) _).alloc (by simp) _).trans (Mod.toBelow HM.out (by simp; omega) (fun k hk h => by omega))) n2
    have hln2 : IsLn (w1.drewN n2) (w.heap.size + 1) j' tb s nl := HLN.out.drewN n2
    have hlt := Blk.lt hln2
    clear HM HLN
    generalize w1.drewN n2 = wa at hbel hln2 hlt ⊢
    have HB := hid hbel
    have HL := hid hln2
    clear hbel hln2
    rcases hcc with rfl | rfl | rfl
    all_goals
      go_wp2_with fail
      go_loopw [5] (fun t5 wr => HRR (w.heap.size + 1) j' _ tb nl s w.heap.size w t5 wr) (fun _ wr => s.size - lnI wr (w.heap.size + 1))
      case atStart => exact ⟨j', Nat.le_refl _, by omega, by rw [cntB_self]; rfl, fun _ => HC.out, by rw [cntB_self]; omega, HL.out, HB.out⟩
      case round =>
        obtain ⟨p, hjp, hps, rfl, hpc, hcp, hln, hb⟩ := hrel
        have HLN := hid hln
        have HB1 := hid hb
        have HPC := hid hpc
        clear hln hb hpc
        by_cases hp : p < s.size
        · go_wp2_with fail
          refine (trim_yes _ p _ tb nl s _ HLN.out hs hp (HPC.out hp)).mono ?_
          rintro e w3 ⟨rfl, hl3, hm3⟩
          have HL3 := hid hl3
          have HM3 := hid hm3
          clear hl3 hm3
          go_wp2_with fail
          refine (skip_any _ (p + 1) tb nl s _ HL3.out hs (by omega)).mono ?_
          rintro e w4 ⟨rfl, q, h1q, h2q, h3q, h4q, hl4, hm4⟩
          have hcnt := (cntB_skip s _ j' (p + 1) q h1q (fun k a b e => by rcases h3q k a b with h | h <;> rw [h] at e <;> cases e)).trans (cntB_one s _ j' p hjp (HPC.out hp))
          have hq := fun h : q < s.size => (HALL.out q (by omega) h).resolve_right (fun e => h4q h (.inl e))
          have HQ := hid hq
          have HL4 := hid hl4
          have HM4 := hid hm4
          clear hq hl4 hm4 h3q h4q
          go_wp2_with fail
          go_roundw
          case rel => exact ⟨q, by omega, h2q, by rw [hcnt]; go_num, HQ.out, by omega, HL4.out, (HB1.out.trans (Mod.toBelow HM3.out (HB1.out.size) (fun k hk h => by omega))).trans (Mod.toBelow HM4.out (Nat.le_trans HB1.out.size HM3.out.size) (fun k hk h => by omega))⟩
          case measure => rw [lnI_of HL4.out, lnI_of HLN.out]; omega
        · obtain rfl : p = s.size := by omega
          have h3c := H3.out
          go_wp2_with fail
          refine (trim_no _ s.size _ tb nl s _ HLN.out hs (.inl (Nat.le_refl _))).mono ?_
          rintro e w3 ⟨rfl, n3, rfl⟩
          go_wp2_with fail
          refine (eof_any _ s.size tb nl s _ (HLN.out.drewN n3) hs).mono ?_
          rintro e w4 ⟨rfl, n4, rfl⟩
          go_wp2_with fail
          go_ret
          exact ⟨ret_bool (by simp), below_drewN HB1.out _⟩
  · omega
end Go.Proofs.YtmmijmhdbpldpaaGreatDoor
/- The block starters that decline a line. -/

namespace Go.Proofs.YtmmijmhdbpldpaaGreatDoor
open Go.RowKit
/-- A line's value. -/
@[reducible] def lnV (i : Nat) (tb : Int) (s : ByteArray) (nl : Int) : Value := .agg #[.int .i64 0, .int .i64 i, .int .i64 tb, .string s, .int .u8 nl]
theorem ln_store {w : World} {g : Nat} {a0 a1 a2 a3 a4 : Value} (h : Blk w g 104 #[a0, a1, a2, a3, a4]) (j : Nat) (tb nl : Int) (s : ByteArray) : IsLn (((((w.setCell ⟨g, 0, none⟩ (.int .i64 0)).setCell ⟨g, 1, none⟩ (.int .i64 j)).setCell ⟨g, 2, none⟩ (.int .i64 tb)).setCell ⟨g, 3, none⟩ (.string s)).setCell ⟨g, 4, none⟩ (.int .u8 nl)) g j tb s nl := by
  have h' := (((((Blk.set_ h 0 (.int .i64 0)).set_ 1 (.int .i64 j)).set_ 2 (.int .i64 tb)).set_ 3 (.string s)).set_ 4 (.int .u8 nl))
  simpa [lnC, IsLn] using h'
set_option maxHeartbeats 1600000 in
theorem trimQuote_no (i : Nat) (tb nl : Int) (s : ByteArray) (w : World) (hs : s.size ≤ 140737488355328) (hi : i ≤ s.size) (ht : ∀ k, bt s k ≠ 9) (hq : ∀ k, i ≤ k → k ≤ i + 3 → bt s k ≠ 62) :
    Calls Tryz.prog 124 #[lnV i tb s nl] w fun e w' => e = .returned (.tuple #[lnV i tb s nl, .bool false]) ∧ Below w.heap.size w w' := by
  have HT := hid ht
  have HQ := hid hq
  clear ht hq
  go_enter Tryz.func124, Tryz.ntmps124
  go_wp2_with fail
  refine (trimSp_any _ i 0 3 false tb nl s _ (Blk.new' (by simp)) hs hi HT.out (by omega) (by omega)).mono ?_
  rintro e w1 ⟨j, h1, h2, h3, h4, h5, h6, hm⟩
  rcases h6 with ⟨rfl, _, hln⟩ | ⟨_, hbad, _⟩
  · have HLN := hid hln
    have HM := hid hm
    clear hln hm h4 h5
    go_wp2_with fail
    refine (trim_no _ j _ tb nl s _ HLN.out hs (.inr (HQ.out j h1 h2))).mono ?_
    rintro e w2 ⟨rfl, n2, rfl⟩
    have hm2 := HM.out.drewN n2
    have hbox : IsLn (w1.drewN n2) w.heap.size i tb s nl := (Blk.alloc (Blk.alloc (Blk.new' rfl) _) _ : Blk _ w.heap.size 104 (lnC i tb s nl)).mod hm2 (by show ¬ (w.heap.size = w.heap.size + 1 + 1); omega)
    have hres : Blk (w1.drewN n2) (w.heap.size + 1) 104 #[.int .i64 0, .int .i64 0, .int .i64 0, .string ⟨#[]⟩, .int .u8 0] := (Blk.alloc (Blk.new' (by simp)) _ : Blk _ (w.heap.size + 1) 104 #[.int .i64 0, .int .i64 0, .int .i64 0, .string ⟨#[]⟩, .int .u8 0]).mod hm2 (by show ¬ (w.heap.size + 1 = w.heap.size + 1 + 1); omega)
    have hbel : Below w.heap.size w (w1.drewN n2) := below_drewN (((((Below.refl _ _).alloc (Nat.le_refl _) _).alloc (by simp) _).alloc (by simp; omega) _).trans (Mod.toBelow HM.out (by simp; omega) (fun k hk h => by omega))) n2
    clear HM HLN hm2
    generalize w1.drewN n2 = wa at hbox hres hbel ⊢
    have c0 := hbox.c0
    have c1 := hbox.c1
    have c2 := hbox.c2
    have c3 := hbox.c3
    have c4 := hbox.c4
    have r0 := hres.at_ 0 rfl
    have r1 := hres.at_ 1 rfl
    have r2 := hres.at_ 2 rfl
    have r3 := hres.at_ 3 rfl
    have r4 := hres.at_ 4 rfl
    have fr := hres.free
    have HR := hid hres
    have HB := hid hbel
    clear hbox hres hbel
    go_wp2_with fail
    have hln := hid (ln_store HR.out i tb nl s)
    have hb2 : Hid (Below w.heap.size w _) := hid (((((HB.out.setCell (p := ⟨w.heap.size + 1, 0, none⟩) (by simp) (.int .i64 0)).setCell (p := ⟨w.heap.size + 1, 1, none⟩) (by simp) (.int .i64 i)).setCell (p := ⟨w.heap.size + 1, 2, none⟩) (by simp) (.int .i64 tb)).setCell (p := ⟨w.heap.size + 1, 3, none⟩) (by simp) (.string s)).setCell (p := ⟨w.heap.size + 1, 4, none⟩) (by simp) (.int .u8 nl))
    generalize World.setCell _ ⟨w.heap.size + 1, 4, none⟩ _ = wy at hln hb2 ⊢
    clear c0 c1 c2 c3 c4 r0 r1 r2 r3 r4 fr
    have k0 := hln.out.c0
    have k1 := hln.out.c1
    have k2 := hln.out.c2
    have k3 := hln.out.c3
    have k4 := hln.out.c4
    refine bodyPost_ret (by simp [results, Tryz.results124, go_sem, k0, k1, k2, k3, k4]; try rfl) rfl ?_
    exact ⟨rfl, hb2.out⟩
  · omega
set_option maxHeartbeats 1600000 in
theorem newQuote_no (g i : Nat) (tb nl : Int) (s : ByteArray) (w : World) (hs : s.size ≤ 140737488355328) (hi : i ≤ s.size) (ht : ∀ k, bt s k ≠ 9) (hq : ∀ k, i ≤ k → k ≤ i + 3 → bt s k ≠ 62) :
    Calls Tryz.prog 85 #[.pointer (some ⟨g, 0, none⟩), lnV i tb s nl] w fun e w' => e = .returned (.tuple #[lnV i tb s nl, .bool false]) ∧ Below w.heap.size w w' := by
  have HT := hid ht
  have HQ := hid hq
  clear ht hq
  go_enter Tryz.func85, Tryz.ntmps85
  go_wp2_with fail
  refine (trimQuote_no i tb nl s _ hs hi HT.out HQ.out).mono ?_
  rintro e w1 ⟨rfl, hb⟩
  have hm2 := Mod.below' (S := fun _ => False) hb
  have hbox : IsLn w1 w.heap.size i tb s nl := (Blk.alloc (Blk.new' rfl) _ : Blk _ w.heap.size 104 (lnC i tb s nl)).mod (S := fun _ => False) hm2 (fun h => h)
  have hres : Blk w1 (w.heap.size + 1) 104 #[.int .i64 0, .int .i64 0, .int .i64 0, .string ⟨#[]⟩, .int .u8 0] := (Blk.new' (by simp) : Blk _ (w.heap.size + 1) 104 #[.int .i64 0, .int .i64 0, .int .i64 0, .string ⟨#[]⟩, .int .u8 0]).mod (S := fun _ => False) hm2 (fun h => h)
  have hbel : Below w.heap.size w w1 := (((Below.refl _ _).alloc (Nat.le_refl _) _).alloc (by simp) _).trans (hb.mono (by simp; omega))
  have hl1 := Blk.lt hbox
  have hl2 := Blk.lt hres
  clear hb hm2
  have c0 := hbox.c0
  have c1 := hbox.c1
  have c2 := hbox.c2
  have c3 := hbox.c3
  have c4 := hbox.c4
  have r0 := hres.at_ 0 rfl
  have r1 := hres.at_ 1 rfl
  have r2 := hres.at_ 2 rfl
  have r3 := hres.at_ 3 rfl
  have r4 := hres.at_ 4 rfl
  have fr := hres.free
  have HR := hid hres
  have HB := hid hbel
  clear hbox hres hbel
  unfold lnV
  go_wp2_with fail
  have hln : Hid (IsLn _ (w.heap.size + 1) i tb s nl) := hid (Blk.alloc (ln_store HR.out i tb nl s) (.cells #[.int .i64 0, .int .i64 i, .int .i64 tb, .string s, .int .u8 nl] 104))
  have hb2 : Hid (Below w.heap.size w _) := hid ((((((HB.out.setCell (p := ⟨w.heap.size + 1, 0, none⟩) (by simp) (.int .i64 0)).setCell (p := ⟨w.heap.size + 1, 1, none⟩) (by simp) (.int .i64 i)).setCell (p := ⟨w.heap.size + 1, 2, none⟩) (by simp) (.int .i64 tb)).setCell (p := ⟨w.heap.size + 1, 3, none⟩) (by simp) (.string s)).setCell (p := ⟨w.heap.size + 1, 4, none⟩) (by simp) (.int .u8 nl)).alloc (by simp; omega) (.cells #[.int .i64 0, .int .i64 i, .int .i64 tb, .string s, .int .u8 nl] 104))
  generalize World.alloc _ _ = wy at hln hb2 ⊢
  clear c0 c1 c2 c3 c4 r0 r1 r2 r3 r4 fr
  have k0 := hln.out.c0
  have k1 := hln.out.c1
  have k2 := hln.out.c2
  have k3 := hln.out.c3
  have k4 := hln.out.c4
  refine bodyPost_ret (by simp [results, Tryz.results85, go_sem, k0, k1, k2, k3, k4]; try rfl) rfl ?_
  exact ⟨rfl, hb2.out⟩
set_option maxHeartbeats 1600000 in
theorem trimHeading_no (g i n : Nat) (tb nl : Int) (s : ByteArray) (w : World) (h : IsLn w g i tb s nl) (hs : s.size ≤ 140737488355328) (hi : i ≤ s.size) (ht : ∀ k, bt s k ≠ 9) (hq : ∀ k, i ≤ k → k ≤ i + 3 → bt s k ≠ 35) :
    Calls Tryz.prog 125 #[.pointer (some ⟨g, 0, none⟩), .pointer (some ⟨n, 0, none⟩)] w fun e w' => e = .returned (.bool false) ∧ Below w.heap.size w w' := by
  have h0 := h.c0
  have h1 := h.c1
  have h2 := h.c2
  have h3 := h.c3
  have h4 := h.c4
  have HT := hid ht
  have HQ := hid hq
  clear ht hq h
  go_enter Tryz.func125, Tryz.ntmps125
  go_wp2_with fail
  refine (trimSp_any _ i 0 3 false tb nl s _ (Blk.new' (by simp)) hs hi HT.out (by omega) (by omega)).mono ?_
  rintro e w1 ⟨j, a1, a2, a3, a4, a5, a6, hm⟩
  rcases a6 with ⟨rfl, _, hln⟩ | ⟨_, hbad, _⟩
  · have HLN := hid hln
    have HM := hid hm
    clear hln hm a4 a5
    go_wp2_with fail
    refine (trim_no _ j _ tb nl s _ HLN.out hs (.inr (HQ.out j a1 a2))).mono ?_
    rintro e w2 ⟨rfl, n2, rfl⟩
    go_wp2_with fail
    go_ret
    exact ⟨rfl, below_drewN (((Below.refl _ _).alloc (Nat.le_refl _) _).trans (Mod.toBelow HM.out (by simp) (fun k hk h => by omega))) n2⟩
  · omega
end Go.Proofs.YtmmijmhdbpldpaaGreatDoor
/- A block that is done goes to the top of the stack; a thematic break is such a block. -/



namespace Go.Proofs.YtmmijmhdbpldpaaGreatDoor
open Go.RowKit
set_option maxHeartbeats 800000 in
theorem string_any (g i : Nat) (tb nl : Int) (s : ByteArray) (w : World) (h : IsLn w g i tb s nl) (_ : s.size ≤ 140737488355328) (_ : i ≤ s.size) :
    Calls Tryz.prog 126 #[.pointer (some ⟨g, 0, none⟩)] w fun e w' => e = .returned (.string (s.extract i s.size)) ∧ ∃ n, w' = w.drewN n := by
  have h0 := h.c0
  have h1 := h.c1
  have h3 := h.c3
  clear h
  go_enter Tryz.func126, Tryz.ntmps126
  go_wp2
  go_quiet (fail)
  go_wp2
  go_ret
  exact ⟨rfl, _, rfl⟩
theorem infoBlock : (Tryz.prog.info? 69).map (fun i => (i.zero, i.size, i.bytes)) = some (some .nilIface, 1, 16) := by kernel_rfl
theorem IsStack.blk {w : World} {B sb n cap : Nat} {es : List Ent} (h : IsStack w B ⟨some ⟨sb, 0, none⟩, n, cap⟩ es) : ∃ cs, Blk w sb 121 cs := by
  rcases h.2.2 with ⟨h0, _⟩ | ⟨g', cap', cur, h0, _, hh, _⟩
  · simp [Sl.v] at h0
  · simp only [Sl.v, Value.slice.injEq, Option.some.injEq, Addr.mk.injEq] at h0
    obtain ⟨⟨rfl, _⟩, _⟩ := h0
    exact ⟨_, hh⟩
theorem set_inner (l : List Value) (n : Nat) (a b c d b' : Value) (h : l.length = n) : (l ++ [a, b, c, d]).set (n + 1) b' = l ++ [a, b', c, d] := by
  subst h
  rw [List.set_append_right _ _ (by omega)]
  simp
def DoneP (B g : Nat) (r : PSr) (es : List Ent) (e0 : Ent) (bs : List Value) (y : Value) (w w' : World) : Prop :=
  ∃ v : Sl, v.n = e0.inner.n + 1 ∧ IsPS w' g r ∧ IsStack w' B r.stack (es ++ [{ e0 with inner := v }]) ∧ w'.ownsRow B 69 1 v.v v.n (bs ++ [y]) ∧ Mod (fun k => some k = r.stack.v.ownBlock ∨ some k = e0.inner.v.ownBlock) w w'
set_option maxRecDepth 20000 in
set_option maxHeartbeats 1600000 in
theorem doneBlock_top (B g : Nat) (r : PSr) (es : List Ent) (e0 : Ent) (w : World) (u : TypeId) (x : Value) (bs : List Value) (hB : B ≤ w.heap.size) (hps : IsPS w g r) (hst : IsStack w B r.stack (es ++ [e0])) (hd : r.lineDepth = es.length) (hn : es.length ≤ 1000000)
    (hin : w.ownsRow B 69 1 e0.inner.v e0.inner.n bs) (hm : e0.inner.n ≤ 1000000) :
    Calls Tryz.prog 131 #[.pointer (some ⟨g, 0, none⟩), .iface u x] w fun e w' => e = .returned (.tuple #[]) ∧ DoneP B g r es e0 bs (.iface u x) w w' := by
  obtain ⟨sb, cap, hv, hcap, hfr, hob, hsb, hBs, k0, k1, k2, k3⟩ := hst.top
  have c4 := hps.c4
  have c5 := hps.c5
  rw [hv] at c4
  rw [hd] at c5
  have HTN := hid (show (es.length : Int) + 1 = r.stack.n by rw [hv]; simp)
  have HV := hid hv
  have HOB := hid hob
  clear hv hob hd
  obtain ⟨i0, hi, hz0, hz1, hz2⟩ := info_parts infoBlock
  have HIN := hid hin
  clear hin
  go_enter Tryz.func131, Tryz.ntmps131
  go_wp2_with fail
  refine (trimStack_none g r w _ hps HTN.out).mono ?_
  rintro e w1 ⟨rfl, rfl⟩
  go_wp2_with fail
  go_quiet (fail)
  have hcl : ∀ j u', ([.iface u x] : List Value)[j]? = some u' → ((w.drewN nq).alloc (.cells #[.iface u x] 69)).cell? ((⟨w.heap.size, 0, none⟩ : Addr).add j) = some u' := by
    intro j u' hj
    cases j with
    | zero => rw [Addr.add, if_pos rfl]; exact ((Blk.new (w.drewN nq) 69 #[.iface u x]).cell 0).trans hj
    | succ j => simp at hj
  have HCL := hid hcl
  clear hcl
  go_wp2_with (at_builtin; refine wpList_append_own_at _ rfl (.tmp 27) (.tmp 29) 119 rfl B 69 i0 _ 1 16 Tryz.underlying119 hi hz0 hz1 hz2 rfl (by decide) (.slice e0.inner.a e0.inner.n e0.inner.c) e0.inner.n bs rfl (World.ownsRow.alloc (World.ownsRow.drewN HIN.out nq) _) ⟨w.heap.size, 0, none⟩ 1 1 [.iface u x] rfl rfl HCL.out ?_ ?_ ?_ ?_ ?_)
  · intro v hv; simp at hv; subst hv; rfl
  · unfold maxLen; omega
  · omega
  · simp; omega
  · intro v' w1 hown hgr hnil hat
    obtain ⟨cs, hcs⟩ := IsStack.blk (HV.out ▸ hst)
    have hnb : some sb ≠ (Value.slice e0.inner.a e0.inner.n e0.inner.c).ownBlock := own_ne HIN.out hcs (by decide)
    have hps1 : IsPS w1 g r := Blk.grown ((hps.drewN nq).alloc _) hgr (own_ne HIN.out hps (by decide))
    have hm1 : Mod (fun k => some k = e0.inner.v.ownBlock) w w1 := (((Mod.refl _ w).drewN nq).alloc _).grown hgr (fun k hk => .inl hk.symm)
    have hst1 : IsStack w1 B r.stack (es ++ [e0]) := hst.mod hm1 (fun k hk e => by rw [HOB.out] at hk; cases hk; exact hnb e)
    obtain ⟨sb', cap', hv', hcap', hfr', hob', hsb', hBs', q0, q1, q2, q3⟩ := hst1.top
    have hvv := hv'.symm.trans HV.out
    simp only [Sl.mk.injEq, Option.some.injEq, Addr.mk.injEq] at hvv
    obtain ⟨⟨rfl, _⟩, _, rfl⟩ := hvv
    have hsg : g ≠ sb' := Blk.ne_ hps hcs (by decide)
    obtain ⟨g2, cap2, rfl, hc2⟩ : ∃ g2 cap2, v' = .slice (some ⟨g2, 0, none⟩) (e0.inner.n + 1) cap2 ∧ e0.inner.n + 1 ≤ cap2 := by
      rcases hown.2 with ⟨h1, h2⟩ | ⟨g2, cap2, cur, h1, _, _, h2, _⟩
      · exact absurd h2 (by omega)
      · exact ⟨g2, cap2, h1, h2⟩
    have hg2 : sb' ≠ g2 := by
      rintro rfl
      rcases hat with h | h
      · exact hnb h
      · have : sb' = w.heap.size + 1 := by simpa [Value.ownBlock] using h
        omega
    have hg2' : some g2 = e0.inner.v.ownBlock ∨ w.heap.size ≤ g2 := by
      rcases hat with h | h
      · exact .inl h
      · have : g2 = w.heap.size + 1 := by simpa [Value.ownBlock] using h
        exact .inr (by omega)
    have HO := hid hown
    have HM := hid hm1
    have HST := hid hst1
    have HPS := hid hps1
    have HC := hid hcs
    have HG := hid hg2'
    clear hown hgr hat hm1 hst1 hps1 hcs hg2' k0 k1 k2 k3 hfr hv' hob'
    go_wp2
    go_end0
    refine ⟨rfl, ⟨some ⟨g2, 0, none⟩, e0.inner.n + 1, cap2⟩, rfl, HPS.out.far hsg _, ⟨?_, ?_⟩, ?_, ?_⟩
    · simp [HV.out]
    · have s0 := HST.out.2
      rw [HV.out, show (es ++ [e0]).length = es.length + 1 by simp] at s0
      rw [HV.out]
      have s1 := (s0.stored (es.length * 4 + 1) (.slice (some ⟨g2, 0, none⟩) (e0.inner.n + 1) cap2)).1
      rw [List.flatMap_append] at s1 ⊢
      simp only [List.flatMap_cons, List.flatMap_nil, List.append_nil, Ent.cells, List.length_append, List.length_cons, List.length_nil] at s1 ⊢
      rw [set_inner _ _ _ _ _ _ _ (ents_len es)] at s1
      exact s1
    · refine own_far HO.out ?_ _
      simpa [Value.ownBlock] using hg2
    · refine (HM.out.mono (fun k _ h => .inr h)).setCell (.inl (.inl ?_)) _
      rw [HOB.out]
theorem line_zero {w : World} {g : Nat} {a0 a1 a2 a3 a4 : Value} (h : Blk w g 104 #[a0, a1, a2, a3, a4]) : Blk (((((w.setCell ⟨g, 0, none⟩ (.int .i64 0)).setCell ⟨g, 1, none⟩ (.int .i64 0)).setCell ⟨g, 2, none⟩ (.int .i64 0)).setCell ⟨g, 3, none⟩ (.string ⟨#[]⟩)).setCell ⟨g, 4, none⟩ (.int .u8 0)) g 104 #[.int .i64 0, .int .i64 0, .int .i64 0, .string ⟨#[]⟩, .int .u8 0] := by
  have h' := (((((Blk.set_ h 0 (.int .i64 0)).set_ 1 (.int .i64 0)).set_ 2 (.int .i64 0)).set_ 3 (.string ⟨#[]⟩)).set_ 4 (.int .u8 0))
  simpa using h'
def HRP (B g : Nat) (r : PSr) (es : List Ent) (e0 : Ent) (bs : List Value) (raw : ByteArray) (w : World) (w' : World) : Prop :=
  ∃ t, w.heap.size ≤ t ∧ Blk w' t 241 #[.int .i64 r.lineno, .int .i64 r.lineno, .string raw] ∧ DoneP B g r es e0 bs (.iface 239 (.pointer (some ⟨t, 0, none⟩))) w w'
end Go.Proofs.YtmmijmhdbpldpaaGreatDoor
/- A line that begins a block while only the root is open. -/


namespace Go.Proofs.YtmmijmhdbpldpaaGreatDoor
open Go.RowKit
/-- The functions that begin blocks, in their order. -/
def newsL : List FuncId := [85, 86, 87, 88, 89, 90, 91, 92]
def newsC : Array Value := #[.func (.func 85) #[] #[], .func (.func 86) #[] #[], .func (.func 87) #[] #[], .func (.func 88) #[] #[], .func (.func 89) #[] #[], .func (.func 90) #[] #[], .func (.func 91) #[] #[], .func (.func 92) #[] #[]]
set_option maxRecDepth 20000 in
theorem news_any (w : World) : Calls Tryz.prog 61 #[] w fun e w' => ∃ n, e = .returned (.slice (some ⟨n, 0, none⟩) 8 8) ∧ w.heap.size ≤ n ∧ Blk w' n 124 newsC ∧ Below w.heap.size w w' := by
  go_enter Tryz.func61, Tryz.ntmps61
  go_wp2
  go_ret
  exact ⟨_, rfl, Nat.le_refl _, Blk.new _ _ _, (Below.refl _ _).alloc (Nat.le_refl _) _⟩
/-- What holds while the starters are tried: how many have declined. -/
def AddR (g lb n k : Nat) (r : PSr) (text : ByteArray) (nl : Int) (w : World) (t : Value) (wr : World) : Prop :=
  ∃ i : Nat, i ≤ k ∧ t = .int .i64 i ∧ Blk wr n 124 newsC ∧ IsLn wr lb 0 0 text nl ∧ IsPS wr g { r with lineDepth := 0 } ∧ Mod (fun k => k = g) w wr
def AddOneP (w : World) (Q : World → Prop) (e : Ending) (w' : World) : Prop :=
  e = .returned (.tuple #[]) ∧ ∃ w1 lb cs, Q w1 ∧ w.heap.size ≤ lb ∧ Blk w1 lb 104 cs ∧ Mod (fun k => k = lb) w1 w'
set_option maxRecDepth 20000 in
set_option maxHeartbeats 8000000 in
theorem addLine_one (g k : Nat) (r : PSr) (text : ByteArray) (nl : Int) (w : World) (Q : World → Prop) (hps : IsPS w g r) (hn : r.stack.n = 1) (hs : text.size ≤ 1000000) (hk : k < 8) (hbl : (trimL text.data.toList).isEmpty = false)
    (hdec : ∀ i f wr, i < k → newsL[i]? = some f → IsPS wr g { r with lineDepth := 0 } → Mod (fun k => k = g) w wr →
      Calls Tryz.prog f #[.pointer (some ⟨g, 0, none⟩), lnV 0 0 text nl] wr fun e w' => e = .returned (.tuple #[lnV 0 0 text nl, .bool false]) ∧ Below wr.heap.size wr w')
    (hacc : ∀ f wr, newsL[k]? = some f → IsPS wr g { r with lineDepth := 0 } → Mod (fun k => k = g) w wr →
      Calls Tryz.prog f #[.pointer (some ⟨g, 0, none⟩), lnV 0 0 text nl] wr fun e w' => e = .returned (.tuple #[lnV 0 0 ⟨#[]⟩ 0, .bool true]) ∧ Q w' ∧ wr.heap.size ≤ w'.heap.size ∧ ∀ lb cs, Blk wr lb 104 cs → Blk w' lb 104 cs) :
    Calls Tryz.prog 54 #[.pointer (some ⟨g, 0, none⟩), lnV 0 0 text nl] w (AddOneP w Q) := by
  have HDEC := hid hdec
  have HACC := hid hacc
  clear hdec hacc
  have hg := hps.lt
  have c5 := hps.c5
  have c4 := hps.c4
  rw [hn] at c4
  have f1 := hps.free
  have hgn : ¬ g = w.heap.size := by omega
  go_enter Tryz.func54, Tryz.ntmps54
  go_wp2_with fail
  go_step3
  go_wp2_with fail
  refine wp_loop_rounds 1 ?_
  rw [rounds_succ]
  go_wp2_with fail
  go_quiet (fail)
  go_wp2_with fail
  refine (isBlank_any w.heap.size text 0 _ (Nat.zero_le _) (by omega) (by simp [go_sem]) (by simp [go_sem])).mono ?_
  rintro e w1 ⟨rfl, n, rfl⟩
  rw [List.drop_zero, hbl, World.drewN_drewN]
  have hps1 : Hid (IsPS _ g { r with lineDepth := 0 }) := hid (((hps.set5 0).alloc (.cells #[.int .i64 0, .int .i64 0, .int .i64 0, .string text, .int .u8 nl] 104)).drewN (nq + n))
  have hl1 : Hid (Blk (World.drewN (World.alloc (w.setCell ⟨g, 5, none⟩ (.int .i64 0)) (.cells #[.int .i64 0, .int .i64 0, .int .i64 0, .string text, .int .u8 nl] 104)) (nq + n)) w.heap.size 104 #[.int .i64 0, .int .i64 0, .int .i64 0, .string text, .int .u8 nl]) := hid ((Blk.new' (by simp [World.setCell])).drewN _)
  have hm1 : Hid (Mod (fun k => k = g) w _) := hid ((((Mod.refl (fun k => k = g) w).setCell (p := ⟨g, 5, none⟩) (.inl rfl) (.int .i64 0)).alloc (.cells #[.int .i64 0, .int .i64 0, .int .i64 0, .string text, .int .u8 nl] 104)).drewN (nq + n))
  generalize World.drewN _ (nq + n) = wa at hps1 hl1 hm1 ⊢
  clear c4 c5 f1
  go_wp2_with fail
  go_step3
  go_wp2_with fail
  refine (news_any _).mono ?_
  rintro e w2 ⟨nb, rfl, hnb, hblk, hb⟩
  have m2 := Mod.below' (S := fun k => k = g) hb
  have m2' := Mod.below' (S := fun _ => False) hb
  have hps2 := hid (hps1.out.mod (S := fun _ => False) m2' (fun h => h))
  have hl2 : Hid (IsLn w2 w.heap.size 0 0 text nl) := hid (hl1.out.mod (S := fun _ => False) m2' (fun h => h))
  have hm2 := hid (hm1.out.trans m2 (fun _ _ h => h))
  have hblk2 := hid hblk
  clear hblk hb m2 m2' hps1 hl1 hm1
  go_wp2_with fail
  go_loopw [88] (fun t wr => AddR g w.heap.size nb k r text nl w t wr) (fun t _ => 8 - (intOf t).toNat)
  case atStart => exact ⟨0, Nat.zero_le _, rfl, hblk2.out, hl2.out, hps2.out, hm2.out⟩
  case round =>
    obtain ⟨i, hik, rfl, hN, hL, hP, hM⟩ := hrel
    clear hblk2 hl2 hps2 hm2
    unfold newsC at hN
    have q0 := hN.at_ 0 rfl
    have q1 := hN.at_ 1 rfl
    have q2 := hN.at_ 2 rfl
    have q3 := hN.at_ 3 rfl
    have q4 := hN.at_ 4 rfl
    have q5 := hN.at_ 5 rfl
    have q6 := hN.at_ 6 rfl
    have q7 := hN.at_ 7 rfl
    have c0 := hL.c0
    have c1 := hL.c1
    have c2 := hL.c2
    have c3 := hL.c3
    have c4 := hL.c4
    have fl := Blk.free hL
    have HN := hid hN
    have HL := hid hL
    have HP := hid hP
    have HM := hid hM
    clear hN hL hP hM
    rcases Nat.lt_or_ge i k with hlt | hge
    · have hi : i = 0 ∨ i = 1 ∨ i = 2 ∨ i = 3 ∨ i = 4 ∨ i = 5 ∨ i = 6 := by omega
      rcases hi with rfl | rfl | rfl | rfl | rfl | rfl | rfl
      all_goals
        go_wp2_with fail
        refine (HDEC.out _ _ _ hlt rfl HP.out HM.out).mono ?_
        rintro e w3 ⟨rfl, hb3⟩
        have m3 := Mod.below' (S := fun _ => False) hb3
        have HN3 := hid (HN.out.mod m3 (fun h => h))
        have HL3 := hid (HL.out.mod m3 (fun h => h))
        have HP3 := hid (HP.out.mod m3 (fun h => h))
        have HM3 := hid (HM.out.trans m3 (fun _ _ h => h.elim))
        clear m3 hb3 q0 q1 q2 q3 q4 q5 q6 q7 c0 c1 c2 c3 c4 fl
        unfold lnV
        go_wp2_with fail
        refine ⟨?_, by simp [intOf]⟩
        iterate 25 (apply Exists.intro)
        refine ⟨?_, rfl⟩
        exact ⟨_ + 1, hlt, rfl, HN3.out.alloc _, HL3.out.alloc _, HP3.out.alloc _, HM3.out.alloc _⟩
    · obtain rfl : i = k := by omega
      have hi : i = 0 ∨ i = 1 ∨ i = 2 ∨ i = 3 ∨ i = 4 ∨ i = 5 ∨ i = 6 ∨ i = 7 := by omega
      rcases hi with rfl | rfl | rfl | rfl | rfl | rfl | rfl | rfl
      all_goals
        go_wp2_with fail
        refine (HACC.out _ _ rfl HP.out HM.out).mono ?_
        rintro e w3 ⟨rfl, hq, hsz, hkeep⟩
        have hl3 := hkeep _ _ HL.out
        have hwz : w.heap.size ≤ w3.heap.size := Nat.le_trans HM.out.size hsz
        have fl3 := Blk.free hl3
        have d0 := Blk.at_ hl3 0 rfl
        have d1 := Blk.at_ hl3 1 rfl
        have d2 := Blk.at_ hl3 2 rfl
        have d3 := Blk.at_ hl3 3 rfl
        have d4 := Blk.at_ hl3 4 rfl
        have hlt3 := Blk.lt hl3
        have HQ := hid hq
        have HL3 := hid hl3
        clear hq hsz hkeep hl3 q0 q1 q2 q3 q4 q5 q6 q7 c0 c1 c2 c3 c4 fl
        unfold lnV
        go_wp2_with fail
        have hln : Hid (Blk _ w.heap.size 104 _) := hid (Blk.alloc (line_zero HL3.out) (.cells #[.int .i64 0, .int .i64 0, .int .i64 0, .string ⟨#[]⟩, .int .u8 0] 104))
        have hmy : Hid (Mod (fun k => k = w.heap.size) w3 _) := hid ((((((Mod.refl (fun k => k = w.heap.size) w3).setCell (p := ⟨w.heap.size, 0, none⟩) (.inl rfl) (.int .i64 0)).setCell (p := ⟨w.heap.size, 1, none⟩) (.inl rfl) (.int .i64 0)).setCell (p := ⟨w.heap.size, 2, none⟩) (.inl rfl) (.int .i64 0)).setCell (p := ⟨w.heap.size, 3, none⟩) (.inl rfl) (.string ⟨#[]⟩)).setCell (p := ⟨w.heap.size, 4, none⟩) (.inl rfl) (.int .u8 0) |>.alloc (.cells #[.int .i64 0, .int .i64 0, .int .i64 0, .string ⟨#[]⟩, .int .u8 0] 104))
        generalize World.alloc _ _ = wy at hln hmy ⊢
        clear d0 d1 d2 d3 d4 fl3
        refine (isBlank_any w.heap.size ⟨#[]⟩ 0 wy (Nat.zero_le _) (by simp [ByteArray.size]) (hln.out.at_ 1 rfl) (hln.out.at_ 3 rfl)).mono ?_
        rintro e w4 ⟨rfl, n4, rfl⟩
        have hE : (trimL (List.drop 0 (ByteArray.mk #[]).data.toList)).isEmpty = true := rfl
        rw [hE]
        go_wp2_with fail
        all_goals (try rw [Exit.noGoto_ret])
        go_returns
        exact ⟨rfl, w3, w.heap.size, _, HQ.out, Nat.le_refl _, HL3.out, hmy.out.drewN n4⟩
end Go.Proofs.YtmmijmhdbpldpaaGreatDoor
