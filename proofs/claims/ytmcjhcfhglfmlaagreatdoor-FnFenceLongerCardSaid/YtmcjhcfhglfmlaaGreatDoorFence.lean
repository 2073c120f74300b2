/- A fence: what trimFence takes off a line without tabs. -/
import Derived.Test.YtmcjhcfhglfmlaaGreatDoorUnesc
import Derived.Test.YtmcjhcfhglfmlaaGreatDoorCode
import Derived.Test.YtmcjhcfhglfmlaaGreatDoorDone
namespace Go.Proofs.YtmcjhcfhglfmlaaGreatDoor
open Go.RowKit
set_option maxHeartbeats 400000 in
theorem trimString_any (g i : Nat) (tb nl : Int) (s : ByteArray) (w : World) (h : IsLn w g i tb s nl) (hs : s.size ≤ 100000) (hi : i ≤ s.size) :
    Calls Tryz.prog 185 #[.pointer (some ⟨g, 0, none⟩)] w fun e w' => e = .returned (.string ⟨(trimR (trimL (s.data.toList.drop i))).toArray⟩) ∧ ∃ n, w' = w.drewN n := by
  have h1 := h.c1
  have h3 := h.c3
  clear h
  go_enter Tryz.func185, Tryz.ntmps185
  go_wp2
  go_quiet ((go_at_call 67; exact quiet_left (trimST_any _ _ (by simp; omega))))
  go_wp2
  go_ret
  exact ⟨ret_str (by rw [show (s.extract i s.size).data.toList = s.data.toList.drop i from by rw [ByteArray.data_extract, Array.toList_extract, List.extract_eq_take_drop]; exact List.take_of_length_le (by rw [List.length_drop, ← Lib.size_eq]; omega)]), _, rfl⟩
theorem bt_cut (s : ByteArray) (k n m j : Nat) (hm : k + m ≤ n) (hn : n ≤ s.size) (hj : j < m) : bt ((s.extract k n).extract 0 m) j = bt s (k + j) := by
  unfold bt
  have h1 : j < ((s.extract k n).extract 0 m).size := by simp; omega
  have h2 : k + j < s.size := by omega
  rw [dif_pos h1, dif_pos h2, ByteArray.getElem_extract, ByteArray.getElem_extract]
  congr 3
  omega
theorem sz_cut (s : ByteArray) (k n m : Nat) (hm : k + m ≤ n) (hn : n ≤ s.size) : ((s.extract k n).extract 0 m).size = m := by simp; omega
def TF1 (nb T : Nat) (s : ByteArray) (nl : Int) (w : World) (wr : World) : Prop :=
  ∃ n : Nat, n ≤ 3 ∧ n ≤ s.size ∧ (∀ j, j < n → bt s j = 32) ∧ IsLn wr T n 0 s nl ∧ Blk wr nb 3 #[.int .i64 n] ∧ Mod (fun k => k = nb) w wr
def TF1E (nb T : Nat) (s : ByteArray) (nl : Int) (w : World) (wr : World) : Prop :=
  ∃ n : Nat, n ≤ 3 ∧ n ≤ s.size ∧ (∀ j, j < n → bt s j = 32) ∧ (n < 3 → n < s.size → bt s n ≠ 32) ∧ IsLn wr T n 0 s nl ∧ Blk wr nb 3 #[.int .i64 n] ∧ Mod (fun k => k = nb) w wr
def TF2 (T n : Nat) (c : Int) (s : ByteArray) (nl : Int) (w : World) (t12 t13 : Value) (wr : World) : Prop :=
  ∃ m : Nat, n + m ≤ s.size ∧ t12 = .int .i64 m ∧ t13 = .int .i64 m ∧ (∀ j, n ≤ j → j < n + m → bt s j = c) ∧ IsLn wr T (n + m) 0 s nl ∧ Mod (fun k => k = T) w wr
/-- A fence begins the line: n spaces, m signs c; behind backquotes stands no further one. -/
def FenceAt (s : ByteArray) (n m : Nat) (c : Int) : Prop := n ≤ 3 ∧ n + m ≤ s.size ∧ 3 ≤ m ∧ (c = 96 ∨ c = 126) ∧ (∀ j, j < n → bt s j = 32) ∧ (∀ j, n ≤ j → j < n + m → bt s j = c) ∧ (n + m < s.size → bt s (n + m) ≠ c) ∧ (c = 96 → (96 : UInt8) ∉ s.data.toList.drop (n + m))
/-- What trimFence answers, and what it writes. -/
def TFenceP (g fb ib nb : Nat) (s : ByteArray) (w : World) (e : Ending) (w' : World) : Prop :=
  Mod (fun k => k = g ∨ k = fb ∨ k = ib ∨ k = nb) w w' ∧
  ((e = .returned (.bool false) ∧ Mod (fun k => k = nb) w w' ∧ ∀ n m c, ¬ FenceAt s n m c) ∨
   (e = .returned (.bool true) ∧ ∃ (n m : Nat) (c : Int) (fence info : ByteArray), FenceAt s n m c ∧ (n + m = s.size → info = ⟨#[]⟩) ∧ fence.size = m ∧ (∀ j, j < m → bt fence j = c) ∧ Blk w' nb 3 #[.int .i64 n] ∧ Blk w' fb 9 #[.string fence] ∧ Blk w' ib 9 #[.string info] ∧
     Blk w' g 104 #[.int .i64 0, .int .i64 0, .int .i64 0, .string ⟨#[]⟩, .int .u8 0]))
theorem fence_n (s : ByteArray) (n n2 m : Nat) (c : Int) (hn3 : n ≤ 3) (hns : n ≤ s.size) (hsp : ∀ j, j < n → bt s j = 32) (hst : n < 3 → n < s.size → bt s n ≠ 32) (h : FenceAt s n2 m c) : n2 = n := by
  obtain ⟨b1, b2, b3, b4, b5, b6, _, _⟩ := h
  have hc := b6 n2 (Nat.le_refl _) (by omega)
  rcases Nat.lt_trichotomy n2 n with h | h | h
  · have h1 := hsp n2 h
    rcases b4 with h2 | h2 <;> omega
  · exact h
  · exact absurd (b5 n h) (hst (by omega) (by omega))
theorem few_of (s : ByteArray) (n : Nat) (hn3 : n ≤ 3) (hns : n ≤ s.size) (hsp : ∀ j, j < n → bt s j = 32) (hst : n < 3 → n < s.size → bt s n ≠ 32) (hc1 : bt s n ≠ 96) (hc2 : bt s n ≠ 126) (n2 m : Nat) (c : Int) : ¬ FenceAt s n2 m c := by
  intro h
  obtain rfl := fence_n s n n2 m c hn3 hns hsp hst h
  obtain ⟨b1, b2, b3, b4, b5, b6, _, _⟩ := h
  have hc := b6 n2 (Nat.le_refl _) (by omega)
  rcases b4 with rfl | rfl
  · exact hc1 hc
  · exact hc2 hc
theorem fence_m (s : ByteArray) (n m n2 m2 : Nat) (c c2 : Int) (hn3 : n ≤ 3) (hns : n ≤ s.size) (hsp : ∀ j, j < n → bt s j = 32) (hst : n < 3 → n < s.size → bt s n ≠ 32) (hlt : n < s.size) (hc : bt s n = c) (hstop : n + m < s.size → bt s (n + m) ≠ c) (hrun : ∀ j, n ≤ j → j < n + m → bt s j = c) (hms : n + m ≤ s.size) (h : FenceAt s n2 m2 c2) : n2 = n ∧ c2 = c ∧ m2 = m := by
  obtain rfl := fence_n s n n2 m2 c2 hn3 hns hsp hst h
  obtain ⟨b1, b2, b3, b4, b5, b6, b7, _⟩ := h
  have hc2 := b6 n2 (Nat.le_refl _) (by omega)
  have e : c2 = c := by rw [← hc2, hc]
  subst e
  refine ⟨rfl, rfl, ?_⟩
  rcases Nat.lt_trichotomy m2 m with h | h | h
  · exact absurd (hrun (n2 + m2) (by omega) (by omega)) (b7 (by omega))
  · exact h
  · exact absurd (b6 (n2 + m) (by omega) (by omega)) (hstop (by omega))
theorem few_run (s : ByteArray) (n m : Nat) (c : Int) (hn3 : n ≤ 3) (hns : n ≤ s.size) (hsp : ∀ j, j < n → bt s j = 32) (hst : n < 3 → n < s.size → bt s n ≠ 32) (hm : m < 3) (hlt : n < s.size) (hc : bt s n = c) (hstop : n + m < s.size → bt s (n + m) ≠ c) (hrun : ∀ j, n ≤ j → j < n + m → bt s j = c) (hms : n + m ≤ s.size) (n2 m2 : Nat) (c2 : Int) : ¬ FenceAt s n2 m2 c2 := by
  intro h
  obtain ⟨_, _, rfl⟩ := fence_m s n m n2 m2 c c2 hn3 hns hsp hst hlt hc hstop hrun hms h
  have := h.2.2.1
  omega
theorem few_tick (s : ByteArray) (n m : Nat) (hn3 : n ≤ 3) (hns : n ≤ s.size) (hsp : ∀ j, j < n → bt s j = 32) (hst : n < 3 → n < s.size → bt s n ≠ 32) (hlt : n < s.size) (hc : bt s n = 96) (hstop : n + m < s.size → bt s (n + m) ≠ 96) (hrun : ∀ j, n ≤ j → j < n + m → bt s j = 96) (hms : n + m ≤ s.size) (ht : (96 : UInt8) ∈ s.data.toList.drop (n + m)) (n2 m2 : Nat) (c2 : Int) : ¬ FenceAt s n2 m2 c2 := by
  intro h
  obtain ⟨rfl, rfl, rfl⟩ := fence_m s n m n2 m2 96 c2 hn3 hns hsp hst hlt hc hstop hrun hms h
  exact h.2.2.2.2.2.2.2 rfl ht
theorem idx_mem (l : List UInt8) (c : UInt8) : decide (0 ≤ idxB c l) = true ↔ c ∈ l := by
  rw [decide_eq_true_iff]
  unfold idxB
  cases hx : l.findIdx? (fun x => x == c) with
  | some k =>
    rw [List.findIdx?_eq_some_iff_getElem] at hx
    obtain ⟨h1, h2, _⟩ := hx
    have h3 : l[k] = c := by simpa using h2
    simp only
    exact ⟨fun _ => h3 ▸ List.getElem_mem h1, fun _ => by omega⟩
  | none =>
    rw [List.findIdx?_eq_none_iff] at hx
    simp only
    exact ⟨fun h => absurd h (by decide), fun h => by have := hx c h; simp at this⟩
theorem mem_dropWhile (p : UInt8 → Bool) (l : List UInt8) (c : UInt8) (hp : p c = false) : c ∈ l.dropWhile p ↔ c ∈ l := by
  induction l with
  | nil => simp
  | cons a l ih =>
    rw [List.dropWhile_cons]
    by_cases ha : p a = true
    · rw [if_pos ha, ih]
      have : c ≠ a := fun e => by rw [e, ha] at hp; cases hp
      simp [this]
    · rw [if_neg ha]
theorem tick_trim (l : List UInt8) : (96 : UInt8) ∈ trimR (trimL l) ↔ (96 : UInt8) ∈ l := by
  unfold trimR trimL
  rw [List.mem_reverse, mem_dropWhile _ _ _ (by decide), List.mem_reverse, mem_dropWhile _ _ _ (by decide)]
theorem trimR_len (l : List UInt8) : (trimR l).length ≤ l.length := by
  unfold trimR
  rw [List.length_reverse]
  exact Nat.le_trans (List.Sublist.length_le (List.dropWhile_sublist _)) (by simp)
theorem trimL_len (l : List UInt8) : (trimL l).length ≤ l.length := List.Sublist.length_le (List.dropWhile_sublist _)
theorem trim_sz (s : ByteArray) (k : Nat) (h : s.size ≤ 10000) : (ByteArray.mk (trimR (trimL (s.data.toList.drop k))).toArray).size ≤ 10000 := by
  refine bsz ?_
  refine Nat.le_trans (trimR_len _) (Nat.le_trans (trimL_len _) ?_)
  rw [List.length_drop, ← Lib.size_eq]
  omega
theorem nil_of_end (s : ByteArray) (k : Nat) (h : k = s.size) : (ByteArray.mk (trimR (trimL (s.data.toList.drop k))).toArray).size = 0 := by
  have h1 : s.data.toList.drop k = [] := List.drop_of_length_le (by rw [← Lib.size_eq]; omega)
  rw [h1]
  rfl
theorem tf_end (g fb ib nb n m : Nat) (c : Int) (nl : Int) (s : ByteArray) (l : List UInt8) (fs is : ByteArray) (w w7 : World) (hgf : g ≠ fb) (hgi : g ≠ ib) (hgn : g ≠ nb) (hfi : fb ≠ ib) (hfn : fb ≠ nb) (hin : ib ≠ nb) (hn3 : n ≤ 3) (hms : n + m ≤ s.size) (hm3 : 3 ≤ m) (hc : c = 96 ∨ c = 126)
    (hsp : ∀ j, j < n → bt s j = 32) (hrun : ∀ j, n ≤ j → j < n + m → bt s j = c) (hstop : n + m < s.size → bt s (n + m) ≠ c) (hno : c = 96 → (96 : UInt8) ∉ s.data.toList.drop (n + m)) (hnil : n + m = s.size → l = [])
    (ha : Mod (fun k => k = nb) w w7) (hnb : Blk w7 nb 3 #[.int .i64 n]) (hf : Blk w7 fb 9 #[.string fs]) (hi : Blk w7 ib 9 #[.string is]) (hg : Blk w7 g 104 (lnC 0 0 s nl)) :
    TFenceP g fb ib nb s w (.returned (.bool true)) (((((((w7.setCell ⟨ib, 0, none⟩ (.string ⟨(trimR (trimL (ByteArray.mk l.toArray).data.toList)).toArray⟩)).setCell ⟨fb, 0, none⟩ (.string ((s.extract n s.size).extract 0 m))).setCell ⟨g, 0, none⟩ (.int .i64 0)).setCell ⟨g, 1, none⟩ (.int .i64 0)).setCell ⟨g, 2, none⟩ (.int .i64 0)).setCell ⟨g, 3, none⟩ (.string ⟨#[]⟩)).setCell ⟨g, 4, none⟩ (.int .u8 0)) := by
  have hi1 : Blk (w7.setCell ⟨ib, 0, none⟩ (.string ⟨(trimR (trimL (ByteArray.mk l.toArray).data.toList)).toArray⟩)) ib 9 #[.string ⟨(trimR (trimL (ByteArray.mk l.toArray).data.toList)).toArray⟩] := by simpa using Blk.set_ hi 0 (.string ⟨(trimR (trimL (ByteArray.mk l.toArray).data.toList)).toArray⟩)
  have hf1 := hf.far (p := ⟨ib, 0, none⟩) hfi (.string ⟨(trimR (trimL (ByteArray.mk l.toArray).data.toList)).toArray⟩)
  have hg1 := hg.far (p := ⟨ib, 0, none⟩) hgi (.string ⟨(trimR (trimL (ByteArray.mk l.toArray).data.toList)).toArray⟩)
  have hn1 := hnb.far (p := ⟨ib, 0, none⟩) (fun h => hin h.symm) (.string ⟨(trimR (trimL (ByteArray.mk l.toArray).data.toList)).toArray⟩)
  have m1 : Mod (fun k => k = g ∨ k = fb ∨ k = ib ∨ k = nb) w _ := (ha.mono (S' := fun k => k = g ∨ k = fb ∨ k = ib ∨ k = nb) (fun k _ h => .inr (.inr (.inr h)))).setCell (p := ⟨ib, 0, none⟩) (.inl (.inr (.inr (.inl rfl)))) (.string ⟨(trimR (trimL (ByteArray.mk l.toArray).data.toList)).toArray⟩)
  generalize World.setCell w7 _ _ = w8 at hi1 hf1 hg1 hn1 m1 ⊢
  have hf2 : Blk (w8.setCell ⟨fb, 0, none⟩ (.string ((s.extract n s.size).extract 0 m))) fb 9 #[.string ((s.extract n s.size).extract 0 m)] := by simpa using Blk.set_ hf1 0 (.string ((s.extract n s.size).extract 0 m))
  have hi2 := hi1.far (p := ⟨fb, 0, none⟩) (fun h => hfi h.symm) (.string ((s.extract n s.size).extract 0 m))
  have hg2 := hg1.far (p := ⟨fb, 0, none⟩) hgf (.string ((s.extract n s.size).extract 0 m))
  have hn2 := hn1.far (p := ⟨fb, 0, none⟩) (fun h => hfn h.symm) (.string ((s.extract n s.size).extract 0 m))
  have m2 := m1.setCell (p := ⟨fb, 0, none⟩) (.inl (.inr (.inl rfl))) (.string ((s.extract n s.size).extract 0 m))
  generalize World.setCell w8 _ _ = w9 at hf2 hi2 hg2 hn2 m2 ⊢
  have my : Mod (fun k => k = g) w9 (((((w9.setCell ⟨g, 0, none⟩ (.int .i64 0)).setCell ⟨g, 1, none⟩ (.int .i64 0)).setCell ⟨g, 2, none⟩ (.int .i64 0)).setCell ⟨g, 3, none⟩ (.string ⟨#[]⟩)).setCell ⟨g, 4, none⟩ (.int .u8 0)) :=
    (((((Mod.refl (fun k => k = g) w9).setCell (p := ⟨g, 0, none⟩) (.inl rfl) _).setCell (p := ⟨g, 1, none⟩) (.inl rfl) _).setCell (p := ⟨g, 2, none⟩) (.inl rfl) _).setCell (p := ⟨g, 3, none⟩) (.inl rfl) _).setCell (p := ⟨g, 4, none⟩) (.inl rfl) _
  refine ⟨m2.trans my (fun k _ h => .inl h), .inr ⟨rfl, n, m, c, _, _, ⟨hn3, hms, hm3, hc, hsp, hrun, hstop, hno⟩, ?_, sz_cut s n s.size m hms (Nat.le_refl _), fun j hj => ?_, hn2.mod my (fun h => hgn h.symm), hf2.mod my (fun h => hgf h.symm), hi2.mod my (fun h => hgi h.symm), line_zero hg2⟩⟩
  · intro e
    rw [hnil e]
    rfl
  · rw [bt_cut s n s.size m j hms (Nat.le_refl _) hj]
    exact hrun _ (by omega) (by omega)
set_option maxRecDepth 20000 in
set_option maxHeartbeats 16000000 in
theorem trimFence_any (g fb ib nb : Nat) (nl : Int) (s : ByteArray) (fs is : ByteArray) (n0 : Int) (w : World) (hln : IsLn w g 0 0 s nl) (hf : Blk w fb 9 #[.string fs]) (hi : Blk w ib 9 #[.string is]) (hn : Blk w nb 3 #[.int .i64 n0]) (hfi : fb ≠ ib)
    (hent : HasEnt w) (hs : s.size ≤ 10000) (ht : ∀ k, bt s k ≠ 9) :
    Calls Tryz.prog 144 #[.pointer (some ⟨g, 0, none⟩), .pointer (some ⟨fb, 0, none⟩), .pointer (some ⟨ib, 0, none⟩), .pointer (some ⟨nb, 0, none⟩)] w (TFenceP g fb ib nb s w) := by
  have hgl := Blk.lt hln
  have hfl := Blk.lt hf
  have hil := Blk.lt hi
  have hnlt := Blk.lt hn
  have hgf : g ≠ fb := Blk.ne_ hln hf (by decide)
  have hgi : g ≠ ib := Blk.ne_ hln hi (by decide)
  have hgn : g ≠ nb := Blk.ne_ hln hn (by decide)
  have hfn : fb ≠ nb := Blk.ne_ hf hn (by decide)
  have hin : ib ≠ nb := Blk.ne_ hi hn (by decide)
  have hen : 1 ≠ nb := Blk.ne_ hent hn (by decide)
  have c0 := hln.c0
  have c1 := hln.c1
  have c2 := hln.c2
  have c3 := hln.c3
  have c4 := hln.c4
  have f0 := hn.free 0
  have cn := hn.at_ 0 rfl
  have HT := hid ht
  have HLN := hid hln
  have HF := hid hf
  have HI := hid hi
  have HN := hid hn
  have HE := hid hent
  clear hln hf hi hn hent ht
  go_enter Tryz.func144, Tryz.ntmps144
  go_upto_block 0 with fail
  go_cut [] (fun wx => TF1E nb w.heap.size s nl w wx)
  case first =>
    go_wp2_with fail
    go_loopw [] (fun wr => TF1 nb w.heap.size s nl w wr) (fun wr => 3 - lnI wr w.heap.size)
    case atStart => exact ⟨0, by omega, Nat.zero_le _, fun j h => absurd h (by omega), Blk.new' (by simp [World.setCell]), Blk.alloc (by simpa using Blk.set_ HN.out 0 (.int .i64 0)) _, ((Mod.refl (fun k => k = nb) w).setCell (p := ⟨nb, 0, none⟩) (.inl rfl) (.int .i64 0)).alloc _⟩
    case round =>
      obtain ⟨n, hn3, hns, hsp, hlt, hnb, hm⟩ := hrel
      clear c0 c1 c2 c3 c4 f0 cn
      have b0 := hnb.at_ 0 rfl
      have fb0 := hnb.free 0
      have hle := lnI_of hlt
      have HLT := hid hlt
      have HNB := hid hnb
      have HM := hid hm
      have HSP := hid hsp
      have HLE := hid hle
      clear hlt hnb hm hsp hle
      by_cases h3 : n < 3
      · go_wp2_with fail
        refine (trimSp_any w.heap.size n 1 1 false 0 nl s wr HLT.out (by omega) hns HT.out (by omega) (by omega)).mono ?_
        rintro e w2 ⟨j, a1, a2, a3, a4, a5, a6, hm2⟩
        have hnb2 : Blk w2 nb 3 #[.int .i64 n] := HNB.out.mod hm2 (by show ¬ (nb = w.heap.size); omega)
        have hm02 : Mod (fun k => k = nb) w w2 := HM.out.trans hm2 (fun k hk e => by omega)
        rcases a6 with ⟨rfl, a7, hl2⟩ | ⟨rfl, a7, _, _, hl2⟩
        · have hj : j = n + 1 := by
            rcases a7 with h | h | h
            · omega
            · omega
            · cases h.1
          subst hj
          have b2 := hnb2.at_ 0 rfl
          have f2 := hnb2.free 0
          have hl3 := hl2.far (p := ⟨nb, 0, none⟩) (show w.heap.size ≠ nb by omega) (.int .i64 ((n : Int) + 1))
          have hnb3 : Blk (w2.setCell ⟨nb, 0, none⟩ (.int .i64 ((n : Int) + 1))) nb 3 #[.int .i64 ((n + 1 : Nat) : Int)] := by simpa using Blk.set_ hnb2 0 (.int .i64 ((n : Int) + 1))
          have hm3 := hm02.setCell (p := ⟨nb, 0, none⟩) (.inl rfl) (.int .i64 ((n : Int) + 1))
          have HL3 := hid hl3
          have HNB3 := hid hnb3
          have HM3 := hid hm3
          have HLE3 := hid (lnI_of hl3)
          clear hl2 hnb2 hm02 hm2 hl3 hnb3 hm3 a5
          go_wp2_with fail
          go_roundw
          case rel => exact ⟨n + 1, by omega, by omega, fun k hk => by
            rcases Nat.lt_or_ge k n with h | h
            · exact HSP.out k h
            · exact a4 k h hk, HL3.out, HNB3.out, HM3.out⟩
          case measure => rw [HLE3.out, HLE.out]; omega
        · obtain rfl : j = n := by omega
          have HA5 := hid a5
          clear a4 a5 a7 hm2
          have HL2 := hid hl2
          have HNB2 := hid hnb2
          have HM2 := hid hm02
          clear hl2 hnb2 hm02
          go_wp2_with fail
          go_meet
          exact ⟨j, hn3, hns, HSP.out, fun _ h => HA5.out (by omega) h, HL2.out, HNB2.out, HM2.out⟩
      · obtain rfl : n = 3 := by omega
        go_wp2_with fail
        go_meet
        exact ⟨3, hn3, hns, HSP.out, fun h => absurd h (by omega), HLT.out, HNB.out, HM.out⟩
  case rest =>
    obtain ⟨n, hn3, hns, hsp, hst, hlt, hnb, hm⟩ := hcut
    have HST := hid hst
    clear hst
    clear c0 c1 c2 c3 c4 f0 cn
    have HL2 := hid hlt
    have HNB2 := hid hnb
    have HM2 := hid hm
    have HSP := hid hsp
    clear hlt hnb hm hsp
    go_wp2_with fail
    refine (peek_any w.heap.size n 0 nl s _ HL2.out (by omega)).mono ?_
    rintro e w3 ⟨rfl, n3, rfl⟩
    have HM3 : Hid (Mod (fun k => k = nb) w (wc.drewN n3)) := hid (HM2.out.drewN n3)
    have HL3 : Hid (IsLn (wc.drewN n3) w.heap.size n 0 s nl) := hid HL2.out
    have HNB3 : Hid (Blk (wc.drewN n3) nb 3 #[.int .i64 n]) := hid HNB2.out
    clear HL2 HNB2 HM2
    generalize wc.drewN n3 = wa at HM3 HL3 HNB3 ⊢
    rcases Int.lt_trichotomy (bt s n) 96 with hc | hc | hc
    · have hA : (bt s n == 96) = false := by simp; omega
      have hB : (bt s n == 126) = false := by simp; omega
      go_wp2_with fail
      go_returns
      exact ⟨HM3.out.mono (fun k _ h => .inr (.inr (.inr h))), .inl ⟨rfl, HM3.out, few_of s n hn3 hns HSP.out HST.out (by omega) (by omega)⟩⟩
    · have hA : (bt s n == 96) = true := by simp; omega
      have hB : (bt s n == 126) = false := by simp; omega
      have hlt0 : n < s.size := by
        rcases Nat.lt_or_ge n s.size with h | h
        · exact h
        · exfalso
          have : bt s n = 0 := by unfold bt; rw [dif_neg (by omega)]
          omega
      go_wp2_with fail
      refine (string_any w.heap.size n 0 nl s _ HL3.out (by omega) hns).mono ?_
      rintro e w4 ⟨rfl, n4, rfl⟩
      go_wp2_with fail
      go_loopw [12, 13] (fun t12 t13 wr => TF2 w.heap.size n 96 s nl wa t12 t13 wr) (fun t12 _ _ => s.size - (intOf t12).toNat)
      case atStart => exact ⟨0, hns, rfl, rfl, fun q h1 h2 => absurd h2 (by omega), HL3.out, (Mod.refl _ _).drewN _⟩
      case round =>
        obtain ⟨m, hms, rfl, rfl, hrun, hlr, hmr⟩ := hrel
        have HRUN := hid hrun
        have HLR := hid hlr
        have HMR := hid hmr
        clear hrun hlr hmr
        by_cases hmore : n + m < s.size ∧ bt s (n + m) = 96
        · obtain ⟨hm1, hm2⟩ := hmore
          go_wp2_with fail
          refine (trim_yes w.heap.size (n + m) 96 0 nl s wr HLR.out (by omega) hm1 hm2).mono ?_
          rintro e w5 ⟨rfl, hl5, hm5⟩
          have HL5 := hid hl5
          have HM5 := hid hm5
          clear hl5 hm5
          go_wp2_with fail
          go_roundw
          case rel => exact ⟨m + 1, by omega, by go_num, by go_num, fun q h1 h2 => by
            rcases Nat.lt_or_ge q (n + m) with h | h
            · exact HRUN.out q h1 h
            · obtain rfl : q = n + m := by omega
              exact hm2, HL5.out, HMR.out.trans HM5.out (fun _ _ h => h)⟩
          case measure => simp [intOf]; omega
        · have hstop : n + m < s.size → bt s (n + m) ≠ 96 := fun h e => hmore ⟨h, e⟩
          go_wp2_with fail
          refine (trim_no w.heap.size (n + m) 96 0 nl s wr HLR.out (by omega) (by
            rcases Nat.lt_or_ge (n + m) s.size with h | h
            · exact .inr (hstop h)
            · exact .inl h)).mono ?_
          rintro e w5 ⟨rfl, n5, rfl⟩
          by_cases hm3 : 3 ≤ m
          · go_wp2_with fail
            refine (trimString_any w.heap.size (n + m) 0 nl s _ (HLR.out.drewN n5) (by omega) hms).mono ?_
            rintro e w6 ⟨rfl, n6, rfl⟩
            rw [World.drewN_drewN]
            have hall6 : Mod (fun k => k = nb) w (wr.drewN (n5 + n6)) := (HM3.out.trans HMR.out (fun k hk e => by omega)).drewN (n5 + n6)
            have hent6 : HasEnt (wr.drewN (n5 + n6)) := Blk.mod HE.out hall6 hen
            have HA6 := hid hall6
            have HE6 := hid hent6
            clear hall6 hent6
            have htx := trim_sz s (n + m) hs
            have hte := hid (nil_of_end s (n + m))
            have htk : Hid ((96 : UInt8) ∈ (ByteArray.mk (trimR (trimL (s.data.toList.drop (n + m)))).toArray).data.toList ↔ (96 : UInt8) ∈ s.data.toList.drop (n + m)) := hid (tick_trim (s.data.toList.drop (n + m)))
            generalize (ByteArray.mk (trimR (trimL (s.data.toList.drop (n + m)))).toArray) = txt at htx hte htk ⊢
            go_wp2_with fail
            refine (unescape_any txt _ HE6.out (by omega)).mono ?_
            rintro e w7 ⟨l, hl, htl, rfl, hb7⟩
            have HTL := hid htl
            clear htl
            have hl8 : l.length ≤ 80000 := by omega
            have hnil : Hid (n + m = s.size → l = []) := hid (fun e => List.length_eq_zero_iff.1 (by have := hte.out e; omega))
            have hall7 : Mod (fun k => k = nb) w w7 := HA6.out.trans (Mod.below' hb7 : Mod (fun _ => False) _ w7) (fun _ _ h => h.elim)
            have hnb7 : Blk w7 nb 3 #[.int .i64 n] := ((HNB3.out.mod HMR.out (by show ¬ (nb = w.heap.size); omega)).drewN (n5 + n6)).mod (Mod.below' hb7 : Mod (fun _ => False) _ w7) (fun h => h)
            have hf7 : Blk w7 fb 9 #[.string fs] := HF.out.mod hall7 hfn
            have hi7 : Blk w7 ib 9 #[.string is] := HI.out.mod hall7 hin
            have hg7 : Blk w7 g 104 (lnC 0 0 s nl) := Blk.mod HLN.out hall7 hgn
            have HA7 := hid hall7
            have HNB7 := hid hnb7
            have HF7 := hid hf7
            have HI7 := hid hi7
            have HG7 := hid hg7
            clear hall7 hnb7 hf7 hi7 hg7 hb7 HA6 HE6 hl
            go_wp2_with fail
            refine (zzContains1 ⟨l.toArray⟩ 96 _ (by show l.toArray.size ≤ _; simp; omega)).mono ?_
            rintro e w8 ⟨rfl, rfl⟩
            have hix := hid (idx_mem l 96)
            cases hct : decide (0 ≤ idxB 96 (ByteArray.mk l.toArray).data.toList) with
            | true =>
              have hin96 := hid (htk.out.1 (HTL.out.1 (hix.out.1 hct)))
              go_wp2_with fail
              go_returns
              exact ⟨HA7.out.mono (fun k _ h => .inr (.inr (.inr h))), .inl ⟨rfl, HA7.out, few_tick s n m hn3 hns HSP.out HST.out hlt0 hc hstop HRUN.out hms hin96.out⟩⟩
            | false =>
              have hno96 : Hid ((96 : Int) = 96 → (96 : UInt8) ∉ s.data.toList.drop (n + m)) := hid (fun _ h => by have h1 := hix.out.2 (HTL.out.2 (htk.out.2 h)); rw [h1] at hct; cases hct)
              go_wp2_with fail
              refine (trimST_any ⟨l.toArray⟩ _ (by show l.toArray.size ≤ _; simp; omega)).mono ?_
              rintro e w8 ⟨rfl, rfl⟩
              have ff := HF7.out.free 0
              have fi := HI7.out.free 0
              have fg := HG7.out.free
              have cf := HF7.out.at_ 0 rfl
              have ci := HI7.out.at_ 0 rfl
              have hlg : IsLn w7 g 0 0 s nl := HG7.out
              have g0 := hlg.c0
              have g1 := hlg.c1
              have g2 := hlg.c2
              have g3 := hlg.c3
              have g4 := hlg.c4
              clear hlg
              go_wp2_with fail
              
              go_returns
              exact tf_end g fb ib nb n m 96 nl s l fs is w w7 hgf hgi hgn hfi hfn hin hn3 hms hm3 (by decide) HSP.out HRUN.out hstop (fun _ => hno96.out trivial) hnil.out HA7.out HNB7.out HF7.out HI7.out HG7.out
          · go_wp2_with fail
            go_returns
            exact ⟨((HM3.out.trans HMR.out (fun k hk e => by omega)).drewN n5).mono (fun k _ h => .inr (.inr (.inr h))), .inl ⟨rfl, (HM3.out.trans HMR.out (fun k hk e => by omega)).drewN n5, few_run s n m 96 hn3 hns HSP.out HST.out (by omega) hlt0 hc hstop HRUN.out hms⟩⟩
    rcases Int.lt_trichotomy (bt s n) 126 with hd | hd | hd
    · have hA : (bt s n == 96) = false := by simp; omega
      have hB : (bt s n == 126) = false := by simp; omega
      go_wp2_with fail
      go_returns
      exact ⟨HM3.out.mono (fun k _ h => .inr (.inr (.inr h))), .inl ⟨rfl, HM3.out, few_of s n hn3 hns HSP.out HST.out (by omega) (by omega)⟩⟩
    · have hA : (bt s n == 96) = false := by simp; omega
      have hB : (bt s n == 126) = true := by simp; omega
      have hlt0 : n < s.size := by
        rcases Nat.lt_or_ge n s.size with h | h
        · exact h
        · exfalso
          have : bt s n = 0 := by unfold bt; rw [dif_neg (by omega)]
          omega
      go_wp2_with fail
      refine (string_any w.heap.size n 0 nl s _ HL3.out (by omega) hns).mono ?_
      rintro e w4 ⟨rfl, n4, rfl⟩
      go_wp2_with fail
      go_loopw [12, 13] (fun t12 t13 wr => TF2 w.heap.size n 126 s nl wa t12 t13 wr) (fun t12 _ _ => s.size - (intOf t12).toNat)
      case atStart => exact ⟨0, hns, rfl, rfl, fun q h1 h2 => absurd h2 (by omega), HL3.out, (Mod.refl _ _).drewN _⟩
      case round =>
        obtain ⟨m, hms, rfl, rfl, hrun, hlr, hmr⟩ := hrel
        have HRUN := hid hrun
        have HLR := hid hlr
        have HMR := hid hmr
        clear hrun hlr hmr
        by_cases hmore : n + m < s.size ∧ bt s (n + m) = 126
        · obtain ⟨hm1, hm2⟩ := hmore
          go_wp2_with fail
          refine (trim_yes w.heap.size (n + m) 126 0 nl s wr HLR.out (by omega) hm1 hm2).mono ?_
          rintro e w5 ⟨rfl, hl5, hm5⟩
          have HL5 := hid hl5
          have HM5 := hid hm5
          clear hl5 hm5
          go_wp2_with fail
          go_roundw
          case rel => exact ⟨m + 1, by omega, by go_num, by go_num, fun q h1 h2 => by
            rcases Nat.lt_or_ge q (n + m) with h | h
            · exact HRUN.out q h1 h
            · obtain rfl : q = n + m := by omega
              exact hm2, HL5.out, HMR.out.trans HM5.out (fun _ _ h => h)⟩
          case measure => simp [intOf]; omega
        · have hstop : n + m < s.size → bt s (n + m) ≠ 126 := fun h e => hmore ⟨h, e⟩
          go_wp2_with fail
          refine (trim_no w.heap.size (n + m) 126 0 nl s wr HLR.out (by omega) (by
            rcases Nat.lt_or_ge (n + m) s.size with h | h
            · exact .inr (hstop h)
            · exact .inl h)).mono ?_
          rintro e w5 ⟨rfl, n5, rfl⟩
          by_cases hm3 : 3 ≤ m
          · go_wp2_with fail
            refine (trimString_any w.heap.size (n + m) 0 nl s _ (HLR.out.drewN n5) (by omega) hms).mono ?_
            rintro e w6 ⟨rfl, n6, rfl⟩
            rw [World.drewN_drewN]
            have hall6 : Mod (fun k => k = nb) w (wr.drewN (n5 + n6)) := (HM3.out.trans HMR.out (fun k hk e => by omega)).drewN (n5 + n6)
            have hent6 : HasEnt (wr.drewN (n5 + n6)) := Blk.mod HE.out hall6 hen
            have HA6 := hid hall6
            have HE6 := hid hent6
            clear hall6 hent6
            have htx := trim_sz s (n + m) hs
            have hte := hid (nil_of_end s (n + m))
            have htk : Hid ((96 : UInt8) ∈ (ByteArray.mk (trimR (trimL (s.data.toList.drop (n + m)))).toArray).data.toList ↔ (96 : UInt8) ∈ s.data.toList.drop (n + m)) := hid (tick_trim (s.data.toList.drop (n + m)))
            generalize (ByteArray.mk (trimR (trimL (s.data.toList.drop (n + m)))).toArray) = txt at htx hte htk ⊢
            go_wp2_with fail
            refine (unescape_any txt _ HE6.out (by omega)).mono ?_
            rintro e w7 ⟨l, hl, htl, rfl, hb7⟩
            have HTL := hid htl
            clear htl
            have hl8 : l.length ≤ 80000 := by omega
            have hnil : Hid (n + m = s.size → l = []) := hid (fun e => List.length_eq_zero_iff.1 (by have := hte.out e; omega))
            have hall7 : Mod (fun k => k = nb) w w7 := HA6.out.trans (Mod.below' hb7 : Mod (fun _ => False) _ w7) (fun _ _ h => h.elim)
            have hnb7 : Blk w7 nb 3 #[.int .i64 n] := ((HNB3.out.mod HMR.out (by show ¬ (nb = w.heap.size); omega)).drewN (n5 + n6)).mod (Mod.below' hb7 : Mod (fun _ => False) _ w7) (fun h => h)
            have hf7 : Blk w7 fb 9 #[.string fs] := HF.out.mod hall7 hfn
            have hi7 : Blk w7 ib 9 #[.string is] := HI.out.mod hall7 hin
            have hg7 : Blk w7 g 104 (lnC 0 0 s nl) := Blk.mod HLN.out hall7 hgn
            have HA7 := hid hall7
            have HNB7 := hid hnb7
            have HF7 := hid hf7
            have HI7 := hid hi7
            have HG7 := hid hg7
            clear hall7 hnb7 hf7 hi7 hg7 hb7 HA6 HE6 hl
            go_wp2_with fail
            refine (trimST_any ⟨l.toArray⟩ _ (by show l.toArray.size ≤ _; simp; omega)).mono ?_
            rintro e w8 ⟨rfl, rfl⟩
            have ff := HF7.out.free 0
            have fi := HI7.out.free 0
            have fg := HG7.out.free
            have cf := HF7.out.at_ 0 rfl
            have ci := HI7.out.at_ 0 rfl
            have hlg : IsLn w7 g 0 0 s nl := HG7.out
            have g0 := hlg.c0
            have g1 := hlg.c1
            have g2 := hlg.c2
            have g3 := hlg.c3
            have g4 := hlg.c4
            clear hlg
            go_wp2_with fail
            
            go_returns
            exact tf_end g fb ib nb n m 126 nl s l fs is w w7 hgf hgi hgn hfi hfn hin hn3 hms hm3 (by decide) HSP.out HRUN.out hstop (fun h => nomatch h) hnil.out HA7.out HNB7.out HF7.out HI7.out HG7.out
          · go_wp2_with fail
            go_returns
            exact ⟨((HM3.out.trans HMR.out (fun k hk e => by omega)).drewN n5).mono (fun k _ h => .inr (.inr (.inr h))), .inl ⟨rfl, (HM3.out.trans HMR.out (fun k hk e => by omega)).drewN n5, few_run s n m 126 hn3 hns HSP.out HST.out (by omega) hlt0 hd hstop HRUN.out hms⟩⟩
    · have hA : (bt s n == 96) = false := by simp; omega
      have hB : (bt s n == 126) = false := by simp; omega
      go_wp2_with fail
      go_returns
      exact ⟨HM3.out.mono (fun k _ h => .inr (.inr (.inr h))), .inl ⟨rfl, HM3.out, few_of s n hn3 hns HSP.out HST.out (by omega) (by omega)⟩⟩
end Go.Proofs.YtmcjhcfhglfmlaaGreatDoor
