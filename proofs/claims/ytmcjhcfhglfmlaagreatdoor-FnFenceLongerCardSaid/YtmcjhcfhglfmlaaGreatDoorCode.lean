/- Code blocks, printed. -/
import Derived.Test.YtmcjhcfhglfmlaaGreatDoorEsc
import Derived.Test.YtmcjhcfhglfmlaaGreatDoorStr
namespace Go.Proofs.YtmcjhcfhglfmlaaGreatDoor
open Go.RowKit
def codeHead : List UInt8 := [60, 112, 114, 101, 62, 60, 99, 111, 100, 101, 62]
def codeTail : List UInt8 := [60, 47, 99, 111, 100, 101, 62, 60, 47, 112, 114, 101, 62, 10]
/-- What a block of code without an info string is printed as. -/
def codeOut (ls : List (List UInt8)) : List UInt8 := codeHead ++ ls.flatMap (fun l => esc l ++ [10]) ++ codeTail
/-- Something that is neither a space nor a tab. -/
def Ink (s : ByteArray) : Prop := ∃ k, k < s.size ∧ bt s k ≠ 32 ∧ bt s k ≠ 9
def trimR (l : List UInt8) : List UInt8 := (l.reverse.dropWhile isST).reverse
theorem trimR_of (m : List UInt8) (j : Nat) (hj : j ≤ m.length) (h1 : ∀ k c, j ≤ k → m[k]? = some c → isST c = true) (h2 : ∀ i c, j = i + 1 → m[i]? = some c → isST c = false) : trimR m = m.take j := by
  unfold trimR
  rw [drop_of_while isST m.reverse (m.length - j), List.drop_reverse, List.reverse_reverse, show m.length - (m.length - j) = j from by omega]
  · intro k c hk hc
    rw [List.getElem?_reverse (by omega)] at hc
    exact h1 _ c (by omega) hc
  · intro c hc
    cases j with
    | zero => rw [List.getElem?_eq_none (by rw [List.length_reverse]; omega)] at hc; cases hc
    | succ i =>
      rw [List.getElem?_reverse (by omega), show m.length - 1 - (m.length - (i + 1)) = i from by omega] at hc
      exact h2 i c rfl hc
theorem trimR_nil (m : List UInt8) (h : trimR m = []) : ∀ x ∈ m, isST x = true := by
  unfold trimR at h
  intro x hx
  exact while_nil isST m.reverse (by simpa using h) x (by simpa using hx)
theorem trimL_head (l : List UInt8) (c : UInt8) (m : List UInt8) (h : trimL l = c :: m) : isST c = false := by
  induction l with
  | nil => simp [trimL] at h
  | cons a l ih =>
    unfold trimL at h
    rw [List.dropWhile_cons] at h
    by_cases ha : isST a = true
    · rw [if_pos ha] at h; exact ih h
    · rw [if_neg ha] at h
      simp only [List.cons.injEq] at h
      rw [← h.1]
      simpa using ha
/-- A line with ink is not trimmed to nothing. -/
theorem trim_ink (l : List UInt8) (h : ∃ c ∈ l, isST c = false) : trimR (trimL l) ≠ [] := by
  intro h0
  have h1 := trimR_nil _ h0
  obtain ⟨c, hc, hcs⟩ := h
  cases hm : trimL l with
  | nil =>
    have := while_nil isST l hm c hc
    rw [hcs] at this; cases this
  | cons a m =>
    have h2 := trimL_head l a m hm
    have := h1 a (by rw [hm]; exact List.mem_cons_self ..)
    rw [h2] at this; cases this
def TST1 (s : ByteArray) (t3 : Value) : Prop := ∃ i : Nat, i ≤ s.size ∧ t3 = .int .i64 i ∧ ∀ k c, k < i → s.data.toList[k]? = some c → isST c = true
def TST2 (s : ByteArray) (t4 : Value) : Prop := ∃ j : Nat, j ≤ s.size ∧ t4 = .int .i64 j ∧ ∀ k c, j ≤ k → s.data.toList[k]? = some c → isST c = true
set_option maxHeartbeats 1600000 in
theorem trimST_any (s : ByteArray) (w : World) (hs : s.size ≤ 100000) :
    Calls Tryz.prog 67 #[.string s] w fun e w' => e = .returned (.string ⟨(trimR (trimL s.data.toList)).toArray⟩) ∧ w = w' := by
  have hb := get_bt
  have HL := hid (Lib.size_eq s)
  have second : ∀ i, i ≤ s.size → (∀ k c, k < i → s.data.toList[k]? = some c → isST c = true) → (∀ c, s.data.toList[i]? = some c → isST c = false) → s.extract i s.size = ⟨(trimL s.data.toList).toArray⟩ ∧ (trimL s.data.toList).length = s.size - i := by
    intro i hi h1 h2
    have h3 : trimL s.data.toList = s.data.toList.drop i := drop_of_while isST _ i h1 h2
    exact ⟨by rw [extract_end, h3], by rw [h3, List.length_drop, HL.out]⟩
  have SEC := hid second
  clear second
  go_enter Tryz.func67, Tryz.ntmps67
  go_wp2
  go_loop [3] (fun t3 => TST1 s t3) (fun t3 => s.size - (intOf t3).toNat)
  case atStart => exact ⟨0, Nat.zero_le _, rfl, fun k c h => absurd h (by omega)⟩
  case round =>
    obtain ⟨i, hi, rfl, hsp⟩ := hrel
    have HSP := hid hsp
    clear hsp
    have step : ∀ c, s.data.toList[i]? = some c → isST c = true → ∀ k d, k < i + 1 → s.data.toList[k]? = some d → isST d = true := by
      intro c hc hst j d hj hd
      rcases Nat.lt_or_ge j i with h1 | h1
      · exact HSP.out j d h1 hd
      · obtain rfl : j = i := by omega
        rw [hc] at hd; cases hd; exact hst
    have ST := hid step
    clear step
    by_cases hgo : i < s.size ∧ (bt s i = 32 ∨ bt s i = 9)
    · obtain ⟨hlt, hgo⟩ := hgo
      obtain ⟨c, hc, hbt⟩ := bt_at s hlt
      have HC := hid hc
      have HB := hid hbt
      clear hc hbt
      rcases hgo with h1 | h1
      · go_wp2
        go_round
        case rel => exact ⟨i + 1, by omega, by go_num, ST.out c HC.out (isST_of (.inl (HB.out ▸ h1)))⟩
        case measure => simp [intOf]; omega
      · go_wp2
        go_round
        case rel => exact ⟨i + 1, by omega, by go_num, ST.out c HC.out (isST_of (.inr (HB.out ▸ h1)))⟩
        case measure => simp [intOf]; omega
    · have hend : ∀ c, s.data.toList[i]? = some c → isST c = false := by
        intro c hc
        have hlt : i < s.size := by
          rw [HL.out]
          exact (List.getElem?_eq_some_iff.1 hc).1
        obtain ⟨d, hd, hbt⟩ := bt_at s hlt
        rw [hc] at hd; cases hd
        exact isST_not (fun e => hgo ⟨hlt, .inl (hbt.trans e)⟩) (fun e => hgo ⟨hlt, .inr (hbt.trans e)⟩)
      obtain ⟨hex, hml⟩ := SEC.out i hi HSP.out hend
      have HEX := hid hex
      have HML := hid hml
      have hz : (s.extract i s.size).size = s.size - i := by simp
      have HZ := hid hz
      have HGO := hid hgo
      clear hgo hend hex hml hz
      have b1 : i < s.size → (bt s i == 32) = false := fun h => by simpa using fun e => HGO.out ⟨h, .inl e⟩
      have b2 : i < s.size → (bt s i == 9) = false := fun h => by simpa using fun e => HGO.out ⟨h, .inr e⟩
      have B1 := hid b1
      have B2 := hid b2
      clear b1 b2
      by_cases hlt : i < s.size
      · have b1 := B1.out hlt
        have b2 := B2.out hlt
        go_wp2
        clear b1 b2
        generalize s.extract i s.size = s2 at HEX HZ ⊢
        have hz2 := HZ.out
        have HL2 := hid (Lib.size_eq s2)
        have hz3 : s2.size ≤ 100000 := by omega
        clear hlt
        go_loop [4] (fun t4 => TST2 s2 t4) (fun t4 => (intOf t4).toNat)
        case atStart => exact ⟨s2.size, Nat.le_refl _, by rw [HZ.out], fun k c h1 h2 => by
          rw [List.getElem?_eq_none (by rw [← HL2.out]; omega)] at h2
          cases h2⟩
        case round =>
          obtain ⟨j, hj, rfl, hst⟩ := hrel
          have HST := hid hst
          clear hst
          have hres : (∀ q c, j = q + 1 → s2.data.toList[q]? = some c → isST c = false) → s2.extract 0 j = ⟨(trimR (trimL s.data.toList)).toArray⟩ := by
            intro h
            have e1 : s2.data.toList = trimL s.data.toList := by rw [HEX.out]
            rw [← e1, trimR_of s2.data.toList j (by rw [← HL2.out]; exact hj) HST.out h, Lib.extract_eq]
            simp
          have HRES := hid hres
          clear hres hz2
          cases j with
          | zero =>
            have hr := hid (HRES.out (fun q c h => by omega))
            go_wp2
            go_ret
            exact ⟨ret_str (by rw [← hr.out]; simp), rfl⟩
          | succ m =>
            have hm : m < s2.size := by omega
            obtain ⟨c, hc, hbt⟩ := bt_at s2 hm
            have HC := hid hc
            have HB := hid hbt
            clear hc hbt
            have stp : isST c = true → ∀ k d, m ≤ k → s2.data.toList[k]? = some d → isST d = true := fun hs k d hk hd => by
              rcases Nat.lt_or_ge m k with h1 | h1
              · exact HST.out k d h1 hd
              · obtain rfl : k = m := by omega
                rw [HC.out] at hd; cases hd; exact hs
            have STP := hid stp
            clear stp
            by_cases h32 : bt s2 m = 32
            · go_wp2
              go_round
              case rel => exact ⟨m, by omega, by go_num, STP.out (isST_of (.inl (HB.out ▸ h32)))⟩
              case measure => simp [intOf]
            by_cases h9 : bt s2 m = 9
            · go_wp2
              go_round
              case rel => exact ⟨m, by omega, by go_num, STP.out (isST_of (.inr (HB.out ▸ h9)))⟩
              case measure => simp [intOf]
            have b1 : (bt s2 m == 32) = false := by simpa using h32
            have b2 : (bt s2 m == 9) = false := by simpa using h9
            have hr := hid (HRES.out (fun q d h hd => by
              obtain rfl : q = m := by omega
              rw [HC.out] at hd; cases hd
              exact isST_not (fun e => h32 (HB.out.trans e)) (fun e => h9 (HB.out.trans e))))
            go_wp2
            go_ret
            exact ⟨ret_str hr.out, rfl⟩
      · go_wp2
        generalize s.extract i s.size = s2 at HEX HZ ⊢
        have hz2 := HZ.out
        have HL2 := hid (Lib.size_eq s2)
        have hz3 : s2.size ≤ 100000 := by omega
        clear hlt
        go_loop [4] (fun t4 => TST2 s2 t4) (fun t4 => (intOf t4).toNat)
        case atStart => exact ⟨s2.size, Nat.le_refl _, by rw [HZ.out], fun k c h1 h2 => by
          rw [List.getElem?_eq_none (by rw [← HL2.out]; omega)] at h2
          cases h2⟩
        case round =>
          obtain ⟨j, hj, rfl, hst⟩ := hrel
          have HST := hid hst
          clear hst
          have hres : (∀ q c, j = q + 1 → s2.data.toList[q]? = some c → isST c = false) → s2.extract 0 j = ⟨(trimR (trimL s.data.toList)).toArray⟩ := by
            intro h
            have e1 : s2.data.toList = trimL s.data.toList := by rw [HEX.out]
            rw [← e1, trimR_of s2.data.toList j (by rw [← HL2.out]; exact hj) HST.out h, Lib.extract_eq]
            simp
          have HRES := hid hres
          clear hres hz2
          cases j with
          | zero =>
            have hr := hid (HRES.out (fun q c h => by omega))
            go_wp2
            go_ret
            exact ⟨ret_str (by rw [← hr.out]; simp), rfl⟩
          | succ m =>
            have hm : m < s2.size := by omega
            obtain ⟨c, hc, hbt⟩ := bt_at s2 hm
            have HC := hid hc
            have HB := hid hbt
            clear hc hbt
            have stp : isST c = true → ∀ k d, m ≤ k → s2.data.toList[k]? = some d → isST d = true := fun hs k d hk hd => by
              rcases Nat.lt_or_ge m k with h1 | h1
              · exact HST.out k d h1 hd
              · obtain rfl : k = m := by omega
                rw [HC.out] at hd; cases hd; exact hs
            have STP := hid stp
            clear stp
            by_cases h32 : bt s2 m = 32
            · go_wp2
              go_round
              case rel => exact ⟨m, by omega, by go_num, STP.out (isST_of (.inl (HB.out ▸ h32)))⟩
              case measure => simp [intOf]
            by_cases h9 : bt s2 m = 9
            · go_wp2
              go_round
              case rel => exact ⟨m, by omega, by go_num, STP.out (isST_of (.inr (HB.out ▸ h9)))⟩
              case measure => simp [intOf]
            have b1 : (bt s2 m == 32) = false := by simpa using h32
            have b2 : (bt s2 m == 9) = false := by simpa using h9
            have hr := hid (HRES.out (fun q d h hd => by
              obtain rfl : q = m := by omega
              rw [HC.out] at hd; cases hd
              exact isST_not (fun e => h32 (HB.out.trans e)) (fun e => h9 (HB.out.trans e))))
            go_wp2
            go_ret
            exact ⟨ret_str hr.out, rfl⟩
theorem IsBuf.old {B b : Nat} {l : List UInt8} {w w' : World} (h : IsBuf B b l w) (hb : Below w.heap.size w w') : IsBuf B b l w' := by
  obtain ⟨h0, v, lr, h1, h2, h3⟩ := h
  have hm : Mod (fun _ => False) w w' := Mod.below' hb
  exact ⟨h0, v, lr, (Blk.mod (t := 72) h1 hm (fun x => x)), own_mod h2 hm (fun _ _ x => x), h3⟩
theorem own_form {w : World} {base : Nat} {e : TypeId} {size n : Nat} {v : Value} {xs : List Value} (h : w.ownsRow base e size v n xs) (hn : 0 < n) : ∃ g cap, v = .slice (some ⟨g, 0, none⟩) n cap ∧ base ≤ g ∧ g < w.heap.size := by
  rcases h.2 with ⟨_, h0⟩ | ⟨g, cap, cur, hv, hb, hg, _⟩
  · omega
  · exact ⟨g, cap, hv, hb, Blk.lt hg⟩
/-- What a loop over lines has printed. -/
def CodeR (B b : Nat) (pre : List UInt8) (n : Nat) (ls : List (List UInt8)) (w : World) (t : Value) (wr : World) : Prop :=
  ∃ i : Nat, i ≤ n ∧ t = .int .i64 i ∧ IsBuf B b (pre ++ (ls.take i).flatMap (fun l => esc l ++ [10])) wr ∧ Below B w wr ∧ Kept b w wr
def lineV (l : List UInt8) : Value := .string ⟨l.toArray⟩
/-- An indented block's node: no fence, no info string, lines ls. -/
def IsCode (w : World) (cb base : Nat) (ls : List (List UInt8)) : Prop :=
  ∃ (sl el : Int) (v : Sl), Blk w cb 369 #[.int .i64 sl, .int .i64 el, .string ⟨#[]⟩, .string ⟨#[]⟩, v.v] ∧ w.ownsRow base 9 1 v.v v.n (ls.map lineV)
theorem code_len (L : List (List UInt8)) (i : Nat) (h : ∀ l ∈ L, l.length ≤ 300) : ((L.take i).flatMap (fun l => esc l ++ [10])).length ≤ 2000 * i := by
  induction i with
  | zero => simp
  | succ i ih =>
    rw [List.take_add_one, List.flatMap_append, List.length_append]
    cases hg : L[i]? with
    | none =>
      simp only [Option.toList_none, List.flatMap_nil, List.length_nil]
      omega
    | some l =>
      have h1 := h l (List.mem_of_getElem? hg)
      have h2 := esc_len l
      simp only [Option.toList_some, List.flatMap_cons, List.flatMap_nil, List.append_nil, List.length_append, List.length_cons, List.length_nil]
      omega
set_option maxRecDepth 20000 in
set_option maxHeartbeats 4000000 in
theorem codeHTML_any (B b cb base : Nat) (ls : List (List UInt8)) (last : List UInt8) (w : World) (hcode : IsCode w cb base (ls ++ [last])) (hbuf : IsBuf B b [] w) (hB : B ≤ w.heap.size) (hn : ls.length ≤ 100) (hlen : ∀ l ∈ ls ++ [last], l.length ≤ 300) (hink : ∃ c ∈ last, isST c = false) :
    Calls Tryz.prog 338 #[.pointer (some ⟨cb, 0, none⟩), .pointer (some ⟨b, 0, none⟩)] w (PrintP B b [] (codeOut (ls ++ [last])) w) := by
  obtain ⟨sl, el, v, hblk, hrow⟩ := hcode
  have hvn : v.n = ls.length + 1 := by have := hrow.1; simp at this; omega
  obtain ⟨ra, rn, rc⟩ := v
  dsimp only at hvn
  subst hvn
  obtain ⟨rb, rcap, hra, hBr, hrlt⟩ := own_form hrow (by simp)
  simp only [Sl.v, Value.slice.injEq] at hra
  obtain ⟨rfl, _, rfl⟩ := hra
  obtain ⟨bcs, hbb⟩ := hbuf.blk
  have hcb : cb ≠ b := Blk.ne_ hblk hbb (by decide)
  have hrb := own_ne hrow hbb (by decide)
  have HBUF := hid hbuf
  have HBLK := hid hblk
  have HROW := hid hrow
  have HINK := hid hink
  have HLEN := hid hlen
  clear hbuf hblk hrow hink hlen hbb
  go_enter Tryz.func338, Tryz.ntmps338
  go_wp2_with fail
  refine (buf_len B b [] _ HBUF.out).mono ?_
  rintro e w1 ⟨rfl, n1, rfl⟩
  go_wp2_with fail
  refine (write_str B b [] _ _ ?_ ?_ ?_).mono ?_
  · exact HBUF.out
  · exact hB
  · show 0 + 10 ≤ 2000000
    omega
  rintro e w2 ⟨rfl, h2, b2, k2⟩
  have hk2 : Kept b w w2 := k2
  have hb2 : Below B w w2 := (below_drewN (Below.refl _ _) n1).trans b2
  have hi2 : IsBuf B b [60, 112, 114, 101, 62, 60, 99, 111, 100, 101] w2 := h2
  have d3 := (HBLK.out.kept hk2 hcb (by decide)).at_ 3 rfl
  have HK2 := hid hk2
  have HB2 := hid hb2
  have HI2 := hid hi2
  clear h2 b2 k2 hk2 hb2 hi2
  go_wp2_with fail
  refine (write_str B b [60, 112, 114, 101, 62, 60, 99, 111, 100, 101] _ _ ?_ ?_ ?_).mono ?_
  · exact HI2.out
  · exact Nat.le_trans hB HB2.out.size
  · show 10 + 1 ≤ 2000000
    omega
  rintro e w3 ⟨rfl, h3, b3, k3⟩
  have hk3 : Kept b w w3 := Lib.OthersKept.trans HK2.out k3
  have hb3 : Below B w w3 := HB2.out.trans b3
  have hi3 : IsBuf B b codeHead w3 := h3
  have hblk3 := HBLK.out.kept hk3 hcb (by decide)
  have hrow3 := own_kept HROW.out hk3 hrb (by decide)
  have d2 := hblk3.at_ 2 rfl
  have d4 : w3.cell? ⟨cb, 4, none⟩ = some (.slice (some ⟨rb, 0, none⟩) (ls.length + 1) rc) := hblk3.at_ 4 rfl
  have r0 : w3.cell? ⟨rb, ls.length, none⟩ = some (lineV last) := by
    rw [World.ownsRow.cellAt hrow3 _ (by simp)]
    simp
  unfold lineV at r0
  have hlast : last.length ≤ 300 := HLEN.out last (by simp)
  have hsz : (ByteArray.mk last.toArray).size ≤ 100000 := bsz (by omega)
  have HK3 := hid hk3
  have HB3 := hid hb3
  have HI3 := hid hi3
  have HBK3 := hid hblk3
  have HRW3 := hid hrow3
  clear h3 b3 k3 hk3 hb3 hi3 hblk3 hrow3
  have hl1 : (0 : Int) ≤ (ls.length : Int) := by omega
  go_wp2_with fail
  refine wp_loop_rounds 1 ?_
  rw [rounds_succ]
  go_wp2_with fail
  have hte : (trimR (trimL last)).isEmpty = false := by
    cases hx : trimR (trimL last) with
    | nil => exact absurd hx (trim_ink last HINK.out)
    | cons a m => rfl
  go_quiet ((go_at_call 67; exact quiet_left (trimST_any _ _ hsz)))
  go_wp2_with fail
  have hkA : Hid (Kept b w (w3.drewN nq)) := hid HK3.out
  have hbA : Hid (Below B w (w3.drewN nq)) := hid (below_drewN HB3.out nq)
  have hiA : Hid (IsBuf B b codeHead (w3.drewN nq)) := hid HI3.out
  have hrA : Hid ((w3.drewN nq).ownsRow base 9 1 (.slice (some ⟨rb, 0, none⟩) (ls.length + 1) rc) (ls.length + 1) ((ls ++ [last]).map lineV)) := hid (World.ownsRow.drewN HRW3.out nq)
  clear d2 d4 r0 hte HK3 HB3 HI3 HBK3 HRW3 hl1
  generalize World.drewN w3 nq = wa at hkA hbA hiA hrA ⊢
  go_loopw [101] (fun t wr => CodeR B b codeHead (ls.length + 1) (ls ++ [last]) wa t wr) (fun t _ => ls.length + 1 - (intOf t).toNat)
  case atStart => exact ⟨0, Nat.zero_le _, rfl, by simpa using hiA.out, Below.refl _ _, Lib.OthersKept.refl _ _ _⟩
  case round =>
    obtain ⟨i, hi, rfl, hbf, hbel, hk⟩ := hrel
    have hll : (ls ++ [last]).length = ls.length + 1 := by simp
    have HLL := hid hll
    clear hll
    by_cases hlt : i < ls.length + 1
    · have hy : i < (ls ++ [last]).length := by rw [HLL.out]; exact hlt
      have hrw := own_kept hrA.out hk hrb (by decide)
      have r0 : wr.cell? ⟨rb, i, none⟩ = some (lineV ((ls ++ [last])[i]'hy)) := by
        rw [World.ownsRow.cellAt hrw _ (by omega), List.getElem?_map, List.getElem?_eq_getElem hy]
        rfl
      have hlen := HLEN.out _ (List.getElem_mem hy)
      have htk := hid (show ((ls ++ [last]).take (i + 1)).flatMap (fun l => esc l ++ [10]) = ((ls ++ [last]).take i).flatMap (fun l => esc l ++ [10]) ++ (esc ((ls ++ [last])[i]'hy) ++ [10]) by rw [List.take_add_one, List.getElem?_eq_getElem hy, List.flatMap_append]; simp only [Option.toList_some, List.flatMap_cons, List.flatMap_nil, List.append_nil])
      have hpl := hid (code_len (ls ++ [last]) i HLEN.out)
      generalize (ls ++ [last])[i]'hy = l at r0 hlen htk
      generalize ((ls ++ [last]).take i).flatMap (fun l => esc l ++ [10]) = pre at hbf htk hpl
      have hpl2 := hpl.out
      unfold lineV at r0
      have HBF := hid hbf
      have HBL := hid hbel
      have HK := hid hk
      clear hbf hbel hk hrw
      go_wp2_with fail
      refine (htmlEscaper_any _).mono ?_
      rintro e w4 ⟨n4, rfl, hn4, hp4, hb4⟩
      have hi4 := hid (IsBuf.old HBF.out hb4)
      have hk4 := hid (Lib.OthersKept.below HK.out hb4)
      have hB4 := hid (HBL.out.trans (hb4.mono (Nat.le_trans (Nat.le_trans hB hbA.out.size) HBL.out.size)))
      have HP4 := hid hp4
      clear hp4 hb4 r0
      go_wp2_with fail
      refine (replace_any n4 _ _ HP4.out (bsz (by omega))).mono ?_
      rintro e w5 ⟨rfl, hb5⟩
      have hi5 := hid (IsBuf.old hi4.out hb5)
      have hk5 := hid (Lib.OthersKept.below hk4.out hb5)
      have hB5 := hid (hB4.out.trans (hb5.mono (Nat.le_trans (Nat.le_trans hB hbA.out.size) hB4.out.size)))
      clear hb5
      have hel := esc_len l
      have hsz5 : B ≤ w5.heap.size := Nat.le_trans (Nat.le_trans hB hbA.out.size) hB5.out.size
      go_wp2_with fail
      refine (write_str B b (codeHead ++ pre) ⟨(esc l).toArray⟩ _ ?_ ?_ ?_).mono ?_
      · exact hi5.out
      · exact hsz5
      · rw [List.length_append]
        show 11 + pre.length + (esc l).toArray.size ≤ 2000000
        rw [List.size_toArray]
        omega
      rintro e w6 ⟨rfl, h6, b6, k6⟩
      have hi6 := hid (show IsBuf B b (codeHead ++ pre ++ esc l) w6 from h6)
      have hB6 := hid (hB5.out.trans b6)
      have hk6 := hid (Lib.OthersKept.trans hk5.out k6)
      clear h6 b6 k6
      go_wp2_with fail
      refine (write_str B b (codeHead ++ pre ++ esc l) ⟨#[10]⟩ _ ?_ ?_ ?_).mono ?_
      · exact hi6.out
      · exact Nat.le_trans (Nat.le_trans hB hbA.out.size) hB6.out.size
      · rw [List.length_append, List.length_append]
        show 11 + pre.length + (esc l).length + 1 ≤ 2000000
        omega
      rintro e w7 ⟨rfl, h7, b7, k7⟩
      have hi7 := hid (show IsBuf B b (codeHead ++ pre ++ esc l ++ [10]) w7 from h7)
      have hB7 := hid (hB6.out.trans b7)
      have hk7 := hid (Lib.OthersKept.trans hk6.out k7)
      clear h7 b7 k7
      go_wp2_with fail
      go_roundw
      case rel => exact ⟨i + 1, by omega, by go_num, by rw [htk.out, ← List.append_assoc, ← List.append_assoc]; exact hi7.out, hB7.out, hk7.out⟩
      case measure => simp [intOf]; omega
    · obtain rfl : i = ls.length + 1 := by omega
      have htk : (ls ++ [last]).take (ls.length + 1) = ls ++ [last] := List.take_of_length_le (by rw [HLL.out]; exact Nat.le_refl _)
      have hpl := hid (code_len (ls ++ [last]) (ls.length + 1) HLEN.out)
      rw [htk] at hbf hpl
      have HBF := hid hbf
      have HBL := hid hbel
      have HK := hid hk
      clear hbf hbel hk htk
      go_wp2_with fail
      refine (write_str B b (codeHead ++ (ls ++ [last]).flatMap (fun l => esc l ++ [10])) ⟨#[60, 47, 99, 111, 100, 101, 62, 60, 47, 112, 114, 101, 62, 10]⟩ _ ?_ ?_ ?_).mono ?_
      · exact HBF.out
      · exact Nat.le_trans (Nat.le_trans hB hbA.out.size) HBL.out.size
      · have := hpl.out
        rw [List.length_append]
        show 11 + _ + 14 ≤ 2000000
        omega
      rintro e w7 ⟨rfl, h7, b7, k7⟩
      have hi7 := hid (show IsBuf B b (codeOut (ls ++ [last])) w7 from h7)
      have hB7 := hid ((hbA.out.trans HBL.out).trans b7)
      have hk7 := hid (Lib.OthersKept.trans (Lib.OthersKept.trans hkA.out HK.out) k7)
      clear h7 b7 k7
      go_wp2_with fail
      go_end0
      exact ⟨rfl, hi7.out, hB7.out, hk7.out⟩
end Go.Proofs.YtmcjhcfhglfmlaaGreatDoor
