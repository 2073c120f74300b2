/- A line without tabs: what its small methods do. -/
import Derived.Test.YtmcjhcfhglfmlaaGreatDoorBase
import Derived.Test.YtmcjhcfhglfmlaaGreatDoorProg
import Derived.Test.YtmcjhcfhglfmlaaGreatDoorStr
namespace Go.Proofs.YtmcjhcfhglfmlaaGreatDoor
open Go.RowKit
/-- The cells of a line with no pending spaces. -/
def lnC (i : Nat) (tb : Int) (s : ByteArray) (nl : Int) : Array Value := #[.int .i64 0, .int .i64 i, .int .i64 tb, .string s, .int .u8 nl]
def IsLn (w : World) (g i : Nat) (tb : Int) (s : ByteArray) (nl : Int) : Prop := Blk w g 104 (lnC i tb s nl)
namespace IsLn
variable {w w' : World} {g i : Nat} {tb nl : Int} {s : ByteArray} {S : Nat → Prop}
theorem c0 (h : IsLn w g i tb s nl) : w.cell? ⟨g, 0, none⟩ = some (.int .i64 0) := Blk.at_ h 0 rfl
theorem c1 (h : IsLn w g i tb s nl) : w.cell? ⟨g, 1, none⟩ = some (.int .i64 i) := Blk.at_ h 1 rfl
theorem c2 (h : IsLn w g i tb s nl) : w.cell? ⟨g, 2, none⟩ = some (.int .i64 tb) := Blk.at_ h 2 rfl
theorem c3 (h : IsLn w g i tb s nl) : w.cell? ⟨g, 3, none⟩ = some (.string s) := Blk.at_ h 3 rfl
theorem c4 (h : IsLn w g i tb s nl) : w.cell? ⟨g, 4, none⟩ = some (.int .u8 nl) := Blk.at_ h 4 rfl
theorem set1 (h : IsLn w g i tb s nl) (j : Nat) : IsLn (w.setCell ⟨g, 1, none⟩ (.int .i64 j)) g j tb s nl := Blk.set_ h 1 _
theorem drewN (h : IsLn w g i tb s nl) (n : Nat) : IsLn (w.drewN n) g i tb s nl := h
theorem mod (h : IsLn w g i tb s nl) (hm : Mod S w w') (hn : ¬ S g) : IsLn w' g i tb s nl := Blk.mod h hm hn
end IsLn
theorem IsLn.store {w : World} {g i : Nat} {tb nl : Int} {s : ByteArray} (h : IsLn w g i tb s nl) (j : Nat) : IsLn (((((w.setCell ⟨g, 0, none⟩ (.int .i64 0)).setCell ⟨g, 1, none⟩ (.int .i64 j)).setCell ⟨g, 2, none⟩ (.int .i64 tb)).setCell ⟨g, 3, none⟩ (.string s)).setCell ⟨g, 4, none⟩ (.int .u8 nl)) g j tb s nl := by
  have h' := (((((Blk.set_ h 0 (.int .i64 0)).set_ 1 (.int .i64 j)).set_ 2 (.int .i64 tb)).set_ 3 (.string s)).set_ 4 (.int .u8 nl))
  simpa [lnC, IsLn] using h'
set_option maxHeartbeats 400000 in
theorem peek_any (g i : Nat) (tb nl : Int) (s : ByteArray) (w : World) (h : IsLn w g i tb s nl) (_ : s.size ≤ 140737488355328) :
    Calls Tryz.prog 178 #[.pointer (some ⟨g, 0, none⟩)] w fun e w' => e = .returned (.int .u8 (bt s i)) ∧ ∃ n, w' = w.drewN n := by
  have h0 := h.c0
  have h1 := h.c1
  have h3 := h.c3
  have hb := get_bt s
  clear h
  by_cases hi : i < s.size
  · go_enter Tryz.func178, Tryz.ntmps178
    go_wp2
    go_quiet (fail)
    go_wp2
    go_quiet (fail)
    go_wp2
    go_ret
    exact ⟨rfl, _, World.drewN_drewN _ _ _⟩
  · have hz : bt s i = 0 := by unfold bt; rw [dif_neg hi]
    rw [hz]
    go_enter Tryz.func178, Tryz.ntmps178
    go_wp2
    go_quiet (fail)
    go_wp2
    go_ret
    exact ⟨rfl, _, rfl⟩
set_option maxHeartbeats 400000 in
theorem eof_any (g i : Nat) (tb nl : Int) (s : ByteArray) (w : World) (h : IsLn w g i tb s nl) (_ : s.size ≤ 140737488355328) :
    Calls Tryz.prog 180 #[.pointer (some ⟨g, 0, none⟩)] w fun e w' => e = .returned (.bool (decide (s.size ≤ i))) ∧ ∃ n, w' = w.drewN n := by
  have h1 := h.c1
  have h3 := h.c3
  clear h
  go_enter Tryz.func180, Tryz.ntmps180
  go_wp2
  go_quiet (fail)
  go_wp2
  go_ret
  refine ⟨ret_bool ?_, _, rfl⟩
  simp
set_option maxHeartbeats 800000 in
theorem trim_yes (g i : Nat) (c tb nl : Int) (s : ByteArray) (w : World) (h : IsLn w g i tb s nl) (hs : s.size ≤ 140737488355328) (hi : i < s.size) (hc : bt s i = c) :
    Calls Tryz.prog 176 #[.pointer (some ⟨g, 0, none⟩), .int .u8 c] w fun e w' => e = .returned (.bool true) ∧ IsLn w' g (i + 1) tb s nl ∧ Mod (fun k => k = g) w w' := by
  have h0 := h.c0
  have h1 := h.c1
  have h3 := h.c3
  have f1 := Blk.free h 1
  have hb := get_bt s
  have H := hid h
  clear h
  subst hc
  go_enter Tryz.func176, Tryz.ntmps176
  go_wp2
  go_quiet (fail)
  go_wp2
  go_ret
  exact ⟨rfl, (H.out.drewN _).set1 (i + 1), ((Mod.refl (fun k => k = g) w).drewN _).setCell (.inl rfl) _⟩
set_option maxHeartbeats 800000 in
theorem trim_no (g i : Nat) (c tb nl : Int) (s : ByteArray) (w : World) (h : IsLn w g i tb s nl) (_ : s.size ≤ 140737488355328) (hc : s.size ≤ i ∨ bt s i ≠ c) :
    Calls Tryz.prog 176 #[.pointer (some ⟨g, 0, none⟩), .int .u8 c] w fun e w' => e = .returned (.bool false) ∧ ∃ n, w' = w.drewN n := by
  have h0 := h.c0
  have h1 := h.c1
  have h3 := h.c3
  have hb := get_bt s
  clear h
  by_cases hi : i < s.size
  · have hb2 : (bt s i == c) = false := by rcases hc with hc | hc; (· omega); simpa using hc
    go_enter Tryz.func176, Tryz.ntmps176
    go_wp2
    go_quiet (fail)
    go_wp2
    go_ret
    exact ⟨rfl, _, rfl⟩
  · clear hc
    go_enter Tryz.func176, Tryz.ntmps176
    go_wp2
    go_quiet (fail)
    go_wp2
    go_ret
    exact ⟨rfl, _, rfl⟩
/-- Space or tab. -/
def stAt (s : ByteArray) (k : Nat) : Prop := bt s k = 32 ∨ bt s k = 9
def SkipR (g i : Nat) (tb nl : Int) (s : ByteArray) (w0 wr : World) : Prop :=
  ∃ j, i ≤ j ∧ j ≤ s.size ∧ (∀ k, i ≤ k → k < j → stAt s k) ∧ IsLn wr g j tb s nl ∧ Mod (fun k => k = g) w0 wr
def SkipP (g i : Nat) (tb nl : Int) (s : ByteArray) (w0 wr : World) : Prop :=
  ∃ j, i ≤ j ∧ j ≤ s.size ∧ (∀ k, i ≤ k → k < j → stAt s k) ∧ (j < s.size → ¬ stAt s j) ∧ IsLn wr g j tb s nl ∧ Mod (fun k => k = g) w0 wr
/-- The line's index, read off the world. -/
def lnI (w : World) (g : Nat) : Nat := match w.cell? ⟨g, 1, none⟩ with
  | some v => (intOf v).toNat
  | none => 0
theorem lnI_of {w : World} {g i : Nat} {tb nl : Int} {s : ByteArray} (h : IsLn w g i tb s nl) : lnI w g = i := by
  unfold lnI; rw [h.c1]; simp [intOf]
set_option maxHeartbeats 1600000 in
theorem skip_any (g i : Nat) (tb nl : Int) (s : ByteArray) (w : World) (h : IsLn w g i tb s nl) (hs : s.size ≤ 140737488355328) (hi : i ≤ s.size) :
    Calls Tryz.prog 179 #[.pointer (some ⟨g, 0, none⟩)] w fun e w' => e = .returned (.tuple #[]) ∧ SkipP g i tb nl s w w' := by
  have h0 := h.c0
  have f0 := Blk.free h 0
  have H := hid h
  have hb := get_bt s
  clear h
  go_enter Tryz.func179, Tryz.ntmps179
  go_wp2_with fail
  go_loopw [] (fun wr => SkipR g i tb nl s w wr) (fun wr => s.size - lnI wr g)
  case atStart => exact ⟨i, Nat.le_refl _, hi, fun k h1 h2 => absurd h1 (by omega), Blk.set_ H.out 0 _, (Mod.refl (fun k => k = g) w).setCell (.inl rfl) _⟩
  case round =>
    obtain ⟨j, hij, hjs, hst, hln, hm⟩ := hrel
    have h1 := hln.c1
    have h3 := hln.c3
    have f1 := Blk.free hln 1
    have HST := hid hst
    have HLN := hid hln
    have HM := hid hm
    clear hst hln hm
    by_cases hlt : j < s.size
    · by_cases hsp : stAt s j
      · have fin : ∀ n, SkipR g i tb nl s w ((wr.drewN n).setCell ⟨g, 1, none⟩ (.int .i64 ((j : Int) + 1))) := fun n =>
          ⟨j + 1, by omega, by omega, fun k h1 h2 => by
            rcases Nat.lt_or_ge k j with h | h
            · exact HST.out k h1 h
            · obtain rfl : k = j := by omega
              exact hsp, (HLN.out.drewN n).set1 (j + 1), (HM.out.drewN n).setCell (.inl rfl) _⟩
        have mea : ∀ n, lnI ((wr.drewN n).setCell ⟨g, 1, none⟩ (.int .i64 ((j : Int) + 1))) g = j + 1 := fun n => lnI_of ((HLN.out.drewN n).set1 (j + 1))
        have mea0 := lnI_of HLN.out
        have FIN := hid fin
        have ME := hid mea
        have ME0 := hid mea0
        clear fin mea mea0
        rcases hsp with hsp | hsp
        · go_wp2_with fail
          go_quiet (fail)
          go_wp2
          go_roundw
          case rel => exact FIN.out _
          case measure => rw [ME.out, ME0.out]; omega
        · go_wp2_with fail
          go_quiet (fail)
          go_wp2
          go_roundw
          case rel => exact FIN.out _
          case measure => rw [ME.out, ME0.out]; omega
      · have b1 : (bt s j == 32) = false := by simpa using fun h => hsp (.inl h)
        have b2 : (bt s j == 9) = false := by simpa using fun h => hsp (.inr h)
        go_wp2_with fail
        go_quiet (fail)
        go_wp2
        go_end0
        exact ⟨rfl, j, hij, hjs, HST.out, fun _ => hsp, HLN.out.drewN _, HM.out.drewN _⟩
    · go_wp2_with fail
      go_quiet (fail)
      go_wp2
      go_end0
      exact ⟨rfl, j, hij, hjs, HST.out, fun h => absurd h hlt, HLN.out.drewN _, HM.out.drewN _⟩
def TrimR (g b i mx : Nat) (eol : Bool) (tb nl : Int) (s : ByteArray) (w0 : World) (t10 : Value) (wr : World) : Prop :=
  ∃ n j : Nat, t10 = .int .i64 n ∧ n ≤ mx ∧ i ≤ j ∧ j ≤ i + n ∧ j ≤ s.size ∧ (∀ k, i ≤ k → k < j → bt s k = 32) ∧ (n = j - i ∨ (eol = true ∧ j = s.size)) ∧ IsLn wr b j tb s nl ∧ IsLn wr g i tb s nl ∧ Mod (fun k => k = g) w0 wr
/-- How many spaces are trimmed, and whether that is enough. -/
def TrimP (g i mn mx : Nat) (eol : Bool) (tb nl : Int) (s : ByteArray) (w0 : World) (e : Ending) (wr : World) : Prop :=
  ∃ j : Nat, i ≤ j ∧ j ≤ i + mx ∧ j ≤ s.size ∧ (∀ k, i ≤ k → k < j → bt s k = 32) ∧ (j < i + mx → j < s.size → bt s j ≠ 32) ∧
    ((e = .returned (.bool true) ∧ (mn ≤ j - i ∨ mx ≤ j - i ∨ (eol = true ∧ j = s.size)) ∧ IsLn wr g j tb s nl) ∨ (e = .returned (.bool false) ∧ j - i < mn ∧ j - i < mx ∧ (eol = false ∨ j < s.size) ∧ IsLn wr g i tb s nl)) ∧ Mod (fun k => k = g) w0 wr
set_option maxHeartbeats 1600000 in
theorem trimSp_any (g i mn mx : Nat) (eol : Bool) (tb nl : Int) (s : ByteArray) (w : World) (h : IsLn w g i tb s nl) (hs : s.size ≤ 140737488355328) (hi : i ≤ s.size) (ht : ∀ k, bt s k ≠ 9) (_ : mn ≤ 100) (hmx : mx ≤ 100) :
    Calls Tryz.prog 146 #[.pointer (some ⟨g, 0, none⟩), .int .i64 mn, .int .i64 mx, .bool eol] w (TrimP g i mn mx eol tb nl s w) := by
  have hlt := Blk.lt h
  have h0 := h.c0
  have h1 := h.c1
  have h2 := h.c2
  have h3 := h.c3
  have h4 := h.c4
  have H := hid h
  have hb := get_bt s
  have HT := hid ht
  clear h ht
  go_enter Tryz.func146, Tryz.ntmps146
  go_wp2_with fail
  go_loopw [10] (fun t10 wr => TrimR g w.heap.size i mx eol tb nl s w t10 wr) (fun t10 _ => mx - (intOf t10).toNat)
  case atStart => exact ⟨0, i, rfl, Nat.zero_le _, Nat.le_refl _, Nat.le_refl _, hi, fun k h1 h2 => absurd h1 (by omega), .inl (by omega), Blk.new' rfl, Blk.alloc H.out _, (Mod.refl (fun k => k = g) w).alloc _⟩
  case round =>
    obtain ⟨n, j, rfl, hnm, hij, hjn, hjs, hsp, hor, hlb, hlg, hm⟩ := hrel
    clear h0 h1 h2 h3 h4
    have b0 := hlb.c0
    have b1 := hlb.c1
    have b2 := hlb.c2
    have b3 := hlb.c3
    have b4 := hlb.c4
    have fb := Blk.free hlb
    have g0 := hlg.c0
    have g1 := hlg.c1
    have g2 := hlg.c2
    have g3 := hlg.c3
    have g4 := hlg.c4
    have fg := Blk.free hlg
    have hne : g ≠ w.heap.size := by omega
    have hne2 : w.heap.size ≠ g := by omega
    have HLB := hid hlb
    have HLG := hid hlg
    have HM := hid hm
    have HSP := hid hsp
    clear hlb hlg hm hsp
    by_cases hn : n < mx
    · by_cases hj : j < s.size
      · have hnj : n = j - i := by rcases hor with h | h <;> omega
        by_cases h32 : bt s j = 32
        · go_wp2
          refine ⟨⟨n + 1, j + 1, by go_num, by omega, by omega, by omega, by omega, fun k h1 h2 => ?_, .inl (by omega), HLB.out.set1 (j + 1), Blk.far HLG.out hne _, HM.out.setCell (.inr (Nat.le_refl _)) _⟩, by simp [intOf]; omega⟩
          rcases Nat.lt_or_ge k j with h | h
          · exact HSP.out k h1 h
          · obtain rfl : k = j := by omega
            exact h32
        · have c32 : (bt s j == 32) = false := by simpa using h32
          have c9 : (bt s j == 9) = false := by simpa using HT.out j
          by_cases hmin : mn ≤ n
          · go_wp2
            go_ret
            exact ⟨j, hij, by omega, hjs, HSP.out, fun _ _ => h32, .inl ⟨rfl, .inl (by omega), HLG.out.store j⟩, (((((HM.out.setCell (.inl rfl) _).setCell (.inl rfl) _).setCell (.inl rfl) _).setCell (.inl rfl) _).setCell (.inl rfl) _)⟩
          · go_wp2
            go_ret
            exact ⟨j, hij, by omega, hjs, HSP.out, fun _ _ => h32, .inr ⟨rfl, by omega, by omega, .inr hj, HLG.out⟩, HM.out⟩
      · cases eol with
        | true =>
          go_wp2
          exact ⟨⟨n + 1, j, by go_num, by omega, hij, by omega, hjs, HSP.out, .inr ⟨rfl, by omega⟩, HLB.out, HLG.out, HM.out⟩, by simp [intOf]; omega⟩
        | false =>
          have hnj : n = j - i := by rcases hor with h | h; (· exact h); cases h.1
          by_cases hmin : mn ≤ n
          · go_wp2
            go_ret
            exact ⟨j, hij, by omega, hjs, HSP.out, fun _ h => absurd h hj, .inl ⟨rfl, .inl (by omega), HLG.out.store j⟩, (((((HM.out.setCell (.inl rfl) _).setCell (.inl rfl) _).setCell (.inl rfl) _).setCell (.inl rfl) _).setCell (.inl rfl) _)⟩
          · go_wp2
            go_ret
            exact ⟨j, hij, by omega, hjs, HSP.out, fun _ h => absurd h hj, .inr ⟨rfl, by omega, by omega, .inl rfl, HLG.out⟩, HM.out⟩
    · go_wp2
      go_ret
      exact ⟨j, hij, by omega, hjs, HSP.out, fun h1 h2 => by rcases hor with h | h <;> omega, .inl ⟨rfl, by rcases hor with h | h; (· exact .inr (.inl (by omega))); exact .inr (.inr h), HLG.out.store j⟩, (((((HM.out.setCell (.inl rfl) _).setCell (.inl rfl) _).setCell (.inl rfl) _).setCell (.inl rfl) _).setCell (.inl rfl) _)⟩
end Go.Proofs.YtmcjhcfhglfmlaaGreatDoor
