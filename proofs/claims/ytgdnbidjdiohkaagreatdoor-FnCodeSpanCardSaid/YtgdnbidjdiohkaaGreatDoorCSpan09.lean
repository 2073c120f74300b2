/- Texts of this proof, joined: What a code span's parser calls: the search for a line feed, the spaces at a text's ends; its memory of runs, parseCodeSpan: a run of backquotes, a text, and a run as long, The text of the law FnCodeSpan, and what it prints. -/
import Derived.Test.YtgdnbidjdiohkaaGreatDoorCSpan04
import Derived.Lib.AppendStr
import Derived.Laws.IdiomStrings
import Derived.Deep.MidRow
import Derived.Test.YtgdnbidjdiohkaaGreatDoorCSpan08
import Derived.Test.YtgdnbidjdiohkaaGreatDoorCSpan02
import Derived.Deep.RegionLaw
import Derived.Shelf.Strings.Repeat
import Derived.Ground.NamesProg
import Derived.Test.YtgdnbidjdiohkaaGreatDoorProg
import Derived.Test.YtgdnbidjdiohkaaGreatDoorCSpan01
/- What a code span's parser calls: the search for a line feed, the spaces at a text's ends; its memory of runs. -/





namespace Go.Proofs.YtgdnbidjdiohkaaGreatDoor
open Go.RowKit
theorem infoU8b : (Tryz.prog.info? 5).map (fun i => (i.zero, i.size, i.bytes)) = some (some (.int .u8 0), 1, 1) := by kernel_rfl
theorem own_shape {w : World} {B n : Nat} {e : TypeId} {v : Value} {xs : List Value} (h : w.ownsRow B e 1 v n xs) (h0 : 0 < n) : ∃ g2 cap2, v = .slice (some ⟨g2, 0, none⟩) n cap2 := by
  rcases h.2 with ⟨_, h2⟩ | ⟨g2, cap2, cur, h1, _⟩
  · omega
  · exact ⟨g2, cap2, h1⟩
theorem conv_of {w2 : World} {B g2 cap2 : Nat} {l : List UInt8} (hown : w2.ownsRow B 5 1 (.slice (some ⟨g2, 0, none⟩) l.length cap2) l.length (Go.Lib.strCells ⟨l.toArray⟩)) :
    (convert 49 9 (.slice (some ⟨g2, 0, none⟩) l.length cap2)).run Tryz.prog w2 = .ok (.string ⟨l.toArray⟩) w2 :=
  run_convert_bytes_back (P := Tryz.prog) w2 49 9 5 ⟨g2, 0, none⟩ cap2 l Tryz.underlying49 Tryz.underlying5 Tryz.underlying9 (fun j hj => by
    have := World.ownsRow.cellAt hown j (by simpa using hj)
    rw [Go.Lib.strCells, List.getElem?_map] at this
    rw [show ((⟨g2, 0, none⟩ : Addr).add j) = ⟨g2, j, none⟩ from by unfold Addr.add; split <;> simp_all]
    rw [show (ByteArray.mk l.toArray).data.toList = l from by simp, List.getElem?_eq_getElem hj] at this
    simpa using this)
set_option maxRecDepth 20000 in
set_option maxHeartbeats 800000 in
/-- A text without the byte stays as it is. -/
theorem replaceAll_no (l : List UInt8) (c : UInt8) (y : ByteArray) (w : World) (hl : l.length ≤ 100000) (h0 : 0 < l.length) (hc : c ∉ l) :
    Calls Tryz.prog 52 #[.string ⟨l.toArray⟩, .string ⟨#[c]⟩, .string y] w fun e w' => e = .returned (.string ⟨l.toArray⟩) ∧ Below w.heap.size w w' := by
  obtain ⟨is0, his0, hsz0, hsz1, hsz2⟩ := info_parts infoU8b
  have hno : idxB c l = -1 := idxB_not _ _ hc
  have hZ := hid (show Calls Tryz.prog 54 #[.string ⟨l.toArray⟩, .string ⟨#[c]⟩] w fun e w' => e = .returned (.int .i64 (-1)) ∧ w = w' from by
    have := zzIndex1 ⟨l.toArray⟩ c w (bsz (by omega))
    simp only [hno] at this
    exact this)
  have hsz : (ByteArray.mk l.toArray).size = l.length := List.size_toArray ..
  go_enter Tryz.func52, Tryz.ntmps52
  go_wp2_with fail
  refine wp_loop_rounds 1 ?_
  rw [rounds_succ]
  go_wp2_with (first | (go_at_call 54; refine hZ.out.mono ?_; rintro e w' ⟨rfl, rfl⟩) | (at_builtin; refine Go.Lib.wpList_append_own_string _ rfl (.tmp 14) (.tmp 15) 49 9 (by rfl) w.heap.size 5 is0 Tryz.underlying49 Tryz.underlying9 his0 hsz0 hsz1 hsz2 (.slice none 0 0) 0 [] (by rfl) (World.ownsRow_nil _ _ _ _) ⟨l.toArray⟩ (by rfl) (by unfold maxLen; omega) (by omega) (Nat.le_refl _) ?_; intro v' w2 hown hgr hnil; rw [hsz, Nat.zero_add, List.nil_append] at hown; obtain ⟨g2, cap2, rfl⟩ := own_shape hown h0; have hcv := conv_of hown))
  have hb : Below w.heap.size w w2 := (Below.refl _ w).grown hgr (Nat.le_refl _) (fun q hq => by cases hq)
  clear hown hgr hnil
  go_ret
  exact ⟨rfl, hb⟩
/-- Many cells are filled, side by side. -/
theorem blk_setMany {g : Nat} {t : TypeId} : ∀ (vs bs A : List Value) (w : World), bs.length = vs.length → Blk w g t (A ++ bs).toArray → Blk (w.setCells g A.length vs) g t (A ++ vs).toArray
  | [], [], A, w, _, h => h
  | v :: vs, b :: bs, A, w, hl, h => by
    have h1 := Blk.set_ h A.length v
    rw [List.setIfInBounds_toArray, List.set_append_right _ _ (Nat.le_refl _), Nat.sub_self, List.set_cons_zero] at h1
    have h2 := blk_setMany vs bs (A ++ [v]) (w.setCell ⟨g, A.length, none⟩ v) (by simpa using hl) (by simpa using h1)
    rw [List.length_append, List.length_cons, List.length_nil] at h2
    simpa [World.setCells] using h2
  | [], _ :: _, _, _, hl, _ => by simp at hl
  | _ :: _, [], _, _, hl, _ => by simp at hl
theorem mod_setMany {S : Nat → Prop} {g : Nat} (hg : S g) : ∀ (vs : List Value) (o : Nat) (w : World), Mod S w (w.setCells g o vs)
  | [], _, w => Mod.refl _ w
  | v :: vs, o, w => ((Mod.refl S w).setCell (p := ⟨g, o, none⟩) (.inl hg) v).trans (mod_setMany hg vs (o + 1) _) (fun _ _ h => h)
theorem IsPS.setBack {w : World} {g : Nat} {r : PSr} (h : IsPS w g r) (vs : List Value) (hl : r.back.length = vs.length) : IsPS (w.setCells g 12 vs) g { r with back := vs } := blk_setMany vs r.back _ w hl h
theorem IsPS.setBack1 {w : World} {g : Nat} {r : PSr} (h : IsPS w g r) (k : Nat) (v : Value) : IsPS (w.setCell ⟨g, k + 12, none⟩ v) g { r with back := r.back.set k v } := by
  have := Blk.set_ h (k + 12) v
  rw [List.setIfInBounds_toArray] at this
  exact this
theorem IsPS.backAt {w : World} {g : Nat} {r : PSr} (h : IsPS w g r) {k : Nat} {v : Value} (hk : r.back[k]? = some v) : w.cell? ⟨g, k + 12, none⟩ = some v := by
  refine Blk.at_ h (k + 12) ?_
  rw [List.getElem?_toArray]
  exact hk
theorem zeroBackA : (Tryz.zeroCells93).toList = List.replicate 80 (.int .i64 0) ++ [.bool false] := by kernel_rfl
end Go.Proofs.YtgdnbidjdiohkaaGreatDoor
/- parseCodeSpan: a run of backquotes, a text, and a run as long. -/


namespace Go.Proofs.YtgdnbidjdiohkaaGreatDoor
open Go.RowKit
set_option maxHeartbeats 1600000 in
theorem trimSp2_any (s : ByteArray) (w : World) (hs : s.size ≤ 100000) :
    Calls Tryz.prog 103 #[.string s] w fun e w' => e = .returned (.string ⟨(trimR (trimL s.data.toList)).toArray⟩) ∧ w = w' := by
  have hb := get_bt
  have HL := hid (Lib.size_eq s)
  have second : ∀ i, i ≤ s.size → (∀ k c, k < i → s.data.toList[k]? = some c → isST c = true) → (∀ c, s.data.toList[i]? = some c → isST c = false) → s.extract i s.size = ⟨(trimL s.data.toList).toArray⟩ ∧ (trimL s.data.toList).length = s.size - i := by
    intro i hi h1 h2
    have h3 : trimL s.data.toList = s.data.toList.drop i := drop_of_while isST _ i h1 h2
    exact ⟨by rw [extract_end, h3], by rw [h3, List.length_drop, HL.out]⟩
  have SEC := hid second
  clear second
  go_enter Tryz.func103, Tryz.ntmps103
  go_wp2
  go_loop [3] (fun t3 => TST1 s t3) (fun t3 => s.size - (intOf t3).toNat)
  case atStart => exact ⟨0, Nat.zero_le _, rfl, fun k c h => absurd h (by omega)⟩
  case round =>
    obtain ⟨i, hi, rfl, hsp⟩ := hrel
    have HSP := hid hsp
    clear hsp
    have step : ∀ c, s.data.toList[i]? = some c → isST c = true → ∀ k d, k < i + 1 → s.data.toList[k]? = some d → isST d = true := by
      intro c hc hst j d hj hd
      rcases Nat.lt_or_ge j i with h1 | h1
      · exact HSP.out j d h1 hd
      · obtain rfl : j = i := by omega
        rw [hc] at hd; cases hd; exact hst
    have ST := hid step
    clear step
    by_cases hgo : i < s.size ∧ (bt s i = 32 ∨ bt s i = 9)
    · obtain ⟨hlt, hgo⟩ := hgo
      obtain ⟨c, hc, hbt⟩ := bt_at s hlt
      have HC := hid hc
      have HB := hid hbt
      clear hc hbt
      rcases hgo with h1 | h1
      · go_wp2
        go_round
        case rel => exact ⟨i + 1, by omega, by go_num, ST.out c HC.out (isST_of (.inl (HB.out ▸ h1)))⟩
        case measure => simp [intOf]; omega
      · go_wp2
        go_round
        case rel => exact ⟨i + 1, by omega, by go_num, ST.out c HC.out (isST_of (.inr (HB.out ▸ h1)))⟩
        case measure => simp [intOf]; omega
    · have hend : ∀ c, s.data.toList[i]? = some c → isST c = false := by
        intro c hc
        have hlt : i < s.size := by
          rw [HL.out]
          exact (List.getElem?_eq_some_iff.1 hc).1
        obtain ⟨d, hd, hbt⟩ := bt_at s hlt
        rw [hc] at hd; cases hd
        exact isST_not (fun e => hgo ⟨hlt, .inl (hbt.trans e)⟩) (fun e => hgo ⟨hlt, .inr (hbt.trans e)⟩)
      obtain ⟨hex, hml⟩ := SEC.out i hi HSP.out hend
      have HEX := hid hex
      have HML := hid hml
      have hz : (s.extract i s.size).size = s.size - i := by simp
      have HZ := hid hz
      have HGO := hid hgo
      clear hgo hend hex hml hz
      have b1 : i < s.size → (bt s i == 32) = false := fun h => by simpa using fun e => HGO.out ⟨h, .inl e⟩
      have b2 : i < s.size → (bt s i == 9) = false := fun h => by simpa using fun e => HGO.out ⟨h, .inr e⟩
      have B1 := hid b1
      have B2 := hid b2
      clear b1 b2
      by_cases hlt : i < s.size
      · have b1 := B1.out hlt
        have b2 := B2.out hlt
        go_wp2
        clear b1 b2
        generalize s.extract i s.size = s2 at HEX HZ ⊢
        have hz2 := HZ.out
        have HL2 := hid (Lib.size_eq s2)
        have hz3 : s2.size ≤ 100000 := by omega
        clear hlt
        go_loop [4] (fun t4 => TST2 s2 t4) (fun t4 => (intOf t4).toNat)
        case atStart => exact ⟨s2.size, Nat.le_refl _, by rw [HZ.out], fun k c h1 h2 => by
          rw [List.getElem?_eq_none (by rw [← HL2.out]; omega)] at h2
          cases h2⟩
        case round =>
          obtain ⟨j, hj, rfl, hst⟩ := hrel
          have HST := hid hst
          clear hst
          have hres : (∀ q c, j = q + 1 → s2.data.toList[q]? = some c → isST c = false) → s2.extract 0 j = ⟨(trimR (trimL s.data.toList)).toArray⟩ := by
            intro h
            have e1 : s2.data.toList = trimL s.data.toList := by rw [HEX.out]
            rw [← e1, trimR_of s2.data.toList j (by rw [← HL2.out]; exact hj) HST.out h, Lib.extract_eq]
            simp
          have HRES := hid hres
          clear hres hz2
          cases j with
          | zero =>
            have hr := hid (HRES.out (fun q c h => by omega))
            go_wp2
            go_ret
            exact ⟨ret_str (by rw [← hr.out]; simp), rfl⟩
          | succ m =>
            have hm : m < s2.size := by omega
            obtain ⟨c, hc, hbt⟩ := bt_at s2 hm
            have HC := hid hc
            have HB := hid hbt
            clear hc hbt
            have stp : isST c = true → ∀ k d, m ≤ k → s2.data.toList[k]? = some d → isST d = true := fun hs k d hk hd => by
              rcases Nat.lt_or_ge m k with h1 | h1
              · exact HST.out k d h1 hd
              · obtain rfl : k = m := by omega
                rw [HC.out] at hd; cases hd; exact hs
            have STP := hid stp
            clear stp
            by_cases h32 : bt s2 m = 32
            · go_wp2
              go_round
              case rel => exact ⟨m, by omega, by go_num, STP.out (isST_of (.inl (HB.out ▸ h32)))⟩
              case measure => simp [intOf]
            by_cases h9 : bt s2 m = 9
            · go_wp2
              go_round
              case rel => exact ⟨m, by omega, by go_num, STP.out (isST_of (.inr (HB.out ▸ h9)))⟩
              case measure => simp [intOf]
            have b1 : (bt s2 m == 32) = false := by simpa using h32
            have b2 : (bt s2 m == 9) = false := by simpa using h9
            have hr := hid (HRES.out (fun q d h hd => by
              obtain rfl : q = m := by omega
              rw [HC.out] at hd; cases hd
              exact isST_not (fun e => h32 (HB.out.trans e)) (fun e => h9 (HB.out.trans e))))
            go_wp2
            go_ret
            exact ⟨ret_str hr.out, rfl⟩
      · go_wp2
        generalize s.extract i s.size = s2 at HEX HZ ⊢
        have hz2 := HZ.out
        have HL2 := hid (Lib.size_eq s2)
        have hz3 : s2.size ≤ 100000 := by omega
        clear hlt
        go_loop [4] (fun t4 => TST2 s2 t4) (fun t4 => (intOf t4).toNat)
        case atStart => exact ⟨s2.size, Nat.le_refl _, by rw [HZ.out], fun k c h1 h2 => by
          rw [List.getElem?_eq_none (by rw [← HL2.out]; omega)] at h2
          cases h2⟩
        case round =>
          obtain ⟨j, hj, rfl, hst⟩ := hrel
          have HST := hid hst
          clear hst
          have hres : (∀ q c, j = q + 1 → s2.data.toList[q]? = some c → isST c = false) → s2.extract 0 j = ⟨(trimR (trimL s.data.toList)).toArray⟩ := by
            intro h
            have e1 : s2.data.toList = trimL s.data.toList := by rw [HEX.out]
            rw [← e1, trimR_of s2.data.toList j (by rw [← HL2.out]; exact hj) HST.out h, Lib.extract_eq]
            simp
          have HRES := hid hres
          clear hres hz2
          cases j with
          | zero =>
            have hr := hid (HRES.out (fun q c h => by omega))
            go_wp2
            go_ret
            exact ⟨ret_str (by rw [← hr.out]; simp), rfl⟩
          | succ m =>
            have hm : m < s2.size := by omega
            obtain ⟨c, hc, hbt⟩ := bt_at s2 hm
            have HC := hid hc
            have HB := hid hbt
            clear hc hbt
            have stp : isST c = true → ∀ k d, m ≤ k → s2.data.toList[k]? = some d → isST d = true := fun hs k d hk hd => by
              rcases Nat.lt_or_ge m k with h1 | h1
              · exact HST.out k d h1 hd
              · obtain rfl : k = m := by omega
                rw [HC.out] at hd; cases hd; exact hs
            have STP := hid stp
            clear stp
            by_cases h32 : bt s2 m = 32
            · go_wp2
              go_round
              case rel => exact ⟨m, by omega, by go_num, STP.out (isST_of (.inl (HB.out ▸ h32)))⟩
              case measure => simp [intOf]
            by_cases h9 : bt s2 m = 9
            · go_wp2
              go_round
              case rel => exact ⟨m, by omega, by go_num, STP.out (isST_of (.inr (HB.out ▸ h9)))⟩
              case measure => simp [intOf]
            have b1 : (bt s2 m == 32) = false := by simpa using h32
            have b2 : (bt s2 m == 9) = false := by simpa using h9
            have hr := hid (HRES.out (fun q d h hd => by
              obtain rfl : q = m := by omega
              rw [HC.out] at hd; cases hd
              exact isST_not (fun e => h32 (HB.out.trans e)) (fun e => h9 (HB.out.trans e))))
            go_wp2
            go_ret
            exact ⟨ret_str hr.out, rfl⟩
@[reducible] def codeK (l : List UInt8) : Kind := ⟨182, 183, [lineV l]⟩
theorem codeK_ok (l : List UInt8) : (codeK l).Ok := ⟨(by decide : (183 : Nat) ≠ 95), (by decide : (183 : Nat) ≠ 132), (by decide : (183 : Nat) ≠ 110), fun _ _ => by kernel_rfl, fun _ _ => by kernel_rfl⟩
theorem codeK_sure (l : List UInt8) : ∀ p w, (Instr.typeAssert (.iface (codeK l).T (.pointer p)) 132 156 true).run Tryz.prog w = .ok (.tuple #[.pointer none, .bool false]) w := fun _ _ => by kernel_rfl
theorem span_cut (body : List UInt8) : (ByteArray.mk (32 :: (body ++ [32])).toArray).extract 1 (body.length + 1) = ⟨body.toArray⟩ := by
  rw [extract_mk]
  simp
/-- Where a run of backquotes ends. -/
theorem run_end (s : ByteArray) : ∀ (d p : Nat), s.size ≤ p + d → p ≤ s.size → ∃ b, p ≤ b ∧ b ≤ s.size ∧ (∀ j, p ≤ j → j < b → bt s j = 96) ∧ bt s b ≠ 96 := by
  intro d
  induction d with
  | zero =>
    intro p h1 h2
    exact ⟨p, Nat.le_refl _, h2, fun j h3 h4 => by omega, by unfold bt; rw [dif_neg (by omega)]; decide⟩
  | succ d ih =>
    intro p h1 h2
    by_cases hp : bt s p = 96
    · have hlt : p < s.size := by
        rcases Nat.lt_or_ge p s.size with h | h
        · exact h
        · unfold bt at hp; rw [dif_neg (by omega)] at hp; cases hp
      obtain ⟨b, q1, q2, q3, q4⟩ := ih (p + 1) (by omega) hlt
      refine ⟨b, by omega, q2, fun j h3 h4 => ?_, q4⟩
      rcases Nat.eq_or_lt_of_le h3 with h | h
      · rw [← h]; exact hp
      · exact q3 j h h4
    · exact ⟨p, Nat.le_refl _, h2, fun j h3 h4 => by omega, hp⟩
/-- A text between two runs of n backquotes, from i on; the second one begins at e. -/
structure SpanAt (s : ByteArray) (i n e : Nat) (body : List UInt8) : Prop where
  size : s.size ≤ 100000
  n1 : 1 ≤ n
  n2 : n ≤ 79
  ie : i + n < e
  es : e + n ≤ s.size
  r1 : ∀ j, j < n → bt s (i + j) = 96
  r2 : ∀ j, j < n → bt s (e + j) = 96
  x1 : bt s (i + n) ≠ 96
  x2 : bt s (e + n) ≠ 96
  x3 : bt s (e - 1) ≠ 96
  mid : ∀ a b, i + n ≤ a → a < b → b ≤ e → (∀ j, a ≤ j → j < b → bt s j = 96) → bt s b ≠ 96 → bt s (a - 1) ≠ 96 → b - a ≠ n
  text : s.extract (i + n) e = ⟨(32 :: (body ++ [32])).toArray⟩
  ink : (trimR (trimL (32 :: (body ++ [32])))).isEmpty = false
  no10 : (10 : UInt8) ∉ body
  len : body.length ≤ 90000
/-- While the second run is looked for. -/
def SpanR (g : Nat) (r : PSr) (s : ByteArray) (i n e : Nat) (w0 : World) (t14 : Value) (wr : World) : Prop :=
  ∃ (p : Nat) (bk : List Value), t14 = .int .i64 p ∧ i + n ≤ p ∧ p ≤ e ∧ (bt s p = 96 → bt s (p - 1) ≠ 96) ∧ IsPS wr g { r with back := bk } ∧ bk.length = 81 ∧ (∀ k, k < 80 → ∃ v, bk[k]? = some v) ∧ bk[80]? = some (.bool false) ∧ Mod (fun k => k = g) w0 wr
def CodeP (g : Nat) (r : PSr) (i e n : Nat) (body : List UInt8) (w : World) (ee : Ending) (w' : World) : Prop :=
  ∃ (q : Nat) (bk : List Value), ee = .returned (.tuple #[.iface 182 (.pointer (some ⟨q, 0, none⟩)), .int .i64 i, .int .i64 ((e + n : Nat) : Int), .bool true]) ∧ w.heap.size ≤ q ∧ Blk w' q 183 #[.string ⟨body.toArray⟩] ∧ IsPS w' g { r with back := bk } ∧ Mod (fun k => k = g) w w'
set_option maxRecDepth 20000 in
set_option maxHeartbeats 8000000 in
theorem parseCode_yes (g : Nat) (r : PSr) (p : Value) (s : ByteArray) (i n e : Nat) (body : List UInt8) (w : World) (hps : IsPS w g r) (hbl : r.back.length = 81) (hbk : ∀ k, k < 80 → ∃ v, r.back[k]? = some v) (hb80 : r.back[80]? = some (.bool false)) (hS : SpanAt s i n e body) :
    Calls Tryz.prog 69 #[.pointer (some ⟨g, 12, none⟩), p, .string s, .int .i64 i] w (CodeP g r i e n body w) := by
  obtain ⟨hs, hn1, hn2, hie, hes, hr1, hr2, hx1, hx2, hx3, hmid, htext, hink, hno, hlen⟩ := hS
  have hb := get_bt s
  have hbT := get_bt ⟨(32 :: (body ++ [32])).toArray⟩
  have T0 : bt ⟨(32 :: (body ++ [32])).toArray⟩ 0 = 32 := by rw [bt_list]; rfl
  have T1 : bt ⟨(32 :: (body ++ [32])).toArray⟩ (body.length + 1) = 32 := by
    rw [bt_list, List.getElem?_cons_succ, List.getElem?_append_right (Nat.le_refl _), Nat.sub_self]
    rfl
  have hTs : (ByteArray.mk (32 :: (body ++ [32])).toArray).size = body.length + 2 := by show (32 :: (body ++ [32])).toArray.size = _; simp
  have c92 : w.cell? ⟨g, 92, none⟩ = some (.bool false) := hps.backAt hb80
  have HPS := hid hps
  have HR1 := hid hr1
  have HR2 := hid hr2
  have HMID := hid hmid
  have HBK := hid hbk
  have HTEXT := hid htext
  have HX3 := hid hx3
  have HX1 := hid hx1
  have HX2 := hid hx2
  have e1 : (bt s (i + n) == 96) = false := by simpa using hx1
  have hnot10 : (10 : UInt8) ∉ 32 :: (body ++ [32]) := by
    simp only [List.mem_cons, List.mem_append, List.not_mem_nil, or_false]
    rintro (h | h | h)
    · cases h
    · exact hno h
    · cases h
  have HRA := hid (fun W => replaceAll_no (32 :: (body ++ [32])) 10 ⟨#[32]⟩ W (by simp; omega) (by simp) hnot10)
  have HTR := hid (fun W => trimSp2_any ⟨(32 :: (body ++ [32])).toArray⟩ W (bsz (by simp; omega)))
  clear hps hr1 hr2 hmid hbk htext hx3 hx1 hx2 hnot10
  go_enter Tryz.func69, Tryz.ntmps69
  go_wp2_with fail
  go_step3
  go_wp2_with fail
  go_loopw [13] (fun t13 wr => ∃ m : Nat, t13 = .int .i64 m ∧ 1 ≤ m ∧ m ≤ n ∧ w = wr) (fun t13 _ => n + 1 - (intOf t13).toNat)
  case atStart => exact ⟨1, rfl, Nat.le_refl _, hn1, rfl⟩
  case round =>
    obtain ⟨m, rfl, hm1, hmn, rfl⟩ := hrel
    by_cases hlt : m < n
    · have c3 : (bt s (i + m) == 96) = true := by simpa using HR1.out m hlt
      go_wp2_with fail
      go_roundw
      case rel => exact ⟨m + 1, by go_num, by omega, hlt, trivial⟩
      case measure => simp [intOf]; omega
    · obtain rfl : n = m := by omega
      go_wp2_with fail
      go_loopw [14] (fun t14 wx => SpanR g r s i n e w t14 wx) (fun t14 _ => s.size + 1 - (intOf t14).toNat)
      case atStart => exact ⟨i + n, r.back, by go_num, Nat.le_refl _, by omega, fun h => absurd h HX1.out, HPS.out, hbl, HBK.out, hb80, Mod.refl _ _⟩
      case round =>
        obtain ⟨p1, bk, rfl, hp1, hp2, hp3, hps1, hk1, hk2, hk3, hm2⟩ := hrel
        have c92' : wr.cell? ⟨g, 92, none⟩ = some (.bool false) := hps1.backAt hk3
        have fq := hps1.free
        have HP3 := hid hp3
        have HPS1 := hid hps1
        have HK2 := hid hk2
        have HM2 := hid hm2
        clear hp3 hps1 hk2 hm2 c92
        have hpz : p1 < s.size := by omega
        have hpz2 : (p1 : Int) < (s.size : Int) := by omega
        by_cases h96 : bt s p1 = 96
        · obtain ⟨b, q1, q2, q3, q4⟩ := run_end s s.size p1 (by omega) (by omega)
          have hpb : p1 < b := by
            rcases Nat.eq_or_lt_of_le q1 with h | h
            · rw [← h] at q4; exact absurd h96 q4
            · exact h
          have f1 : (bt s p1 != 96) = false := by simp [bne, h96]
          have fb : (bt s b == 96) = false := by simpa using q4
          have HQ3 := hid q3
          have HQ4 := hid q4
          have H96 := hid h96
          clear q3 q4 h96
          go_wp2_with fail
          go_loopw [14] (fun t14 wy => ∃ q : Nat, t14 = .int .i64 q ∧ p1 ≤ q ∧ q ≤ b ∧ wr = wy) (fun t14 _ => s.size + 1 - (intOf t14).toNat)
          case atStart => exact ⟨p1, rfl, Nat.le_refl _, q1, rfl⟩
          case round =>
            obtain ⟨q, rfl, hq1, hq2, rfl⟩ := hrel
            by_cases hqb : q < b
            · have fb2 : (bt s q == 96) = true := by simpa using HQ3.out q hq1 hqb
              go_wp2_with fail
              go_roundw
              case rel => exact ⟨q + 1, by go_num, by omega, hqb, trivial⟩
              case measure => simp [intOf]; omega
            · obtain rfl : b = q := by omega
              by_cases hpe : p1 < e
              · have hbe : b ≤ e - 1 := by
                  rcases Nat.lt_or_ge (e - 1) b with h | h
                  · exact absurd (HQ3.out (e - 1) (by omega) h) HX3.out
                  · exact h
                have hne := HMID.out p1 b hp1 hpb (by omega) HQ3.out HQ4.out (HP3.out H96.out)
                obtain ⟨m, rfl⟩ : ∃ m, b = p1 + m := ⟨b - p1, by omega⟩
                have hm1 : 1 ≤ m := by omega
                by_cases hm80 : m < 80
                · obtain ⟨v, hv⟩ := HK2.out (m - 1) (by omega)
                  have hcv := HPS1.out.backAt hv
                  rw [Nat.add_comm (m - 1) 12] at hcv
                  have hm80' : (m : Int) < 80 := by omega
                  have hmn' : ¬ m = n := by omega
                  go_wp2_with fail
                  have hset := HPS1.out.setBack1 (m - 1) (.int .i64 p1)
                  rw [Nat.add_comm (m - 1) 12] at hset
                  refine ⟨⟨p1 + m, bk.set (m - 1) (.int .i64 p1), by go_num, by omega, by omega, fun h => absurd h HQ4.out, hset, by simpa using hk1, fun k hk => ?_, ?_, HM2.out.setCell (p := ⟨g, 12 + (m - 1), none⟩) (.inl rfl) _⟩, ?_⟩
                  · rw [List.getElem?_set]
                    split
                    · rename_i hkk; subst hkk; rw [if_pos (by omega)]; exact ⟨_, rfl⟩
                    · exact HK2.out k hk
                  · rw [List.getElem?_set_ne (by omega)]; exact hk3
                  · simp [intOf]; omega
                · have hm80' : ¬ (m : Int) < 80 := by omega
                  have hmn' : ¬ m = n := by omega
                  go_wp2_with fail
                  refine ⟨⟨p1 + m, bk, by go_num, by omega, by omega, fun h => absurd h HQ4.out, HPS1.out, hk1, HK2.out, hk3, HM2.out⟩, ?_⟩
                  simp [intOf]; omega
              · have hbn : b = e + n := by
                  obtain rfl : p1 = e := by omega
                  rcases Nat.lt_trichotomy b (p1 + n) with h | h | h
                  · have := HR2.out (b - p1) (by omega)
                    rw [show p1 + (b - p1) = b from by omega] at this
                    exact absurd this HQ4.out
                  · exact h
                  · exact absurd (HQ3.out (p1 + n) (by omega) h) HX2.out
                obtain rfl : p1 = e := by omega
                subst hbn
                obtain ⟨v, hv⟩ := HK2.out (n - 1) (by omega)
                have hcv := HPS1.out.backAt hv
                rw [Nat.add_comm (n - 1) 12] at hcv
                have hn80' : (n : Int) < 80 := by omega
                have hset := hid (HPS1.out.setBack1 (n - 1) (.int .i64 p1))
                by_cases hend : p1 + n < s.size
                · have hend2 : (p1 : Int) + (n : Int) < (s.size : Int) := by omega
                  go_wp2_with fail
                  rw [HTEXT.out]
                  refine (HRA.out _).mono ?_
                  rintro e' w5 ⟨rfl, hb5⟩
                  go_wp2_with fail
                  refine (HTR.out w5).mono ?_
                  rintro e' w6 ⟨rfl, rfl⟩
                  go_wp2_with fail
                  rw [Exit.noGoto_ret]
                  refine bodyPost_ret (by simp [results, Tryz.results69, go_sem]; try rfl) rfl ?_
                  rw [span_cut]
                  have hps5 : IsPS w5 g _ := IsPS.below (hset.out) (by rw [Nat.add_comm (n - 1) 12]; exact hb5)
                  have hmod : Mod (fun k => k = g) w w5 := (HM2.out.setCell (p := ⟨g, 12 + (n - 1), none⟩) (.inl rfl) _).trans (Mod.below' (S := fun _ => False) hb5) (fun _ _ x => x.elim)
                  exact ⟨w5.heap.size, _, by rw [show ((p1 + n : Nat) : Int) = (p1 : Int) + (n : Int) from by omega], hmod.size, Blk.new _ _ _, hps5.alloc _, hmod.alloc _⟩
                · have hend2 : ¬ (p1 : Int) + (n : Int) < (s.size : Int) := by omega
                  go_wp2_with fail
                  rw [HTEXT.out]
                  refine (HRA.out _).mono ?_
                  rintro e' w5 ⟨rfl, hb5⟩
                  go_wp2_with fail
                  refine (HTR.out w5).mono ?_
                  rintro e' w6 ⟨rfl, rfl⟩
                  go_wp2_with fail
                  rw [Exit.noGoto_ret]
                  refine bodyPost_ret (by simp [results, Tryz.results69, go_sem]; try rfl) rfl ?_
                  rw [span_cut]
                  have hps5 : IsPS w5 g _ := IsPS.below (hset.out) (by rw [Nat.add_comm (n - 1) 12]; exact hb5)
                  have hmod : Mod (fun k => k = g) w w5 := (HM2.out.setCell (p := ⟨g, 12 + (n - 1), none⟩) (.inl rfl) _).trans (Mod.below' (S := fun _ => False) hb5) (fun _ _ x => x.elim)
                  exact ⟨w5.heap.size, _, by rw [show ((p1 + n : Nat) : Int) = (p1 : Int) + (n : Int) from by omega], hmod.size, Blk.new _ _ _, hps5.alloc _, hmod.alloc _⟩
        · have f1 : (bt s p1 != 96) = true := by simp [bne]; exact h96
          have hpe : p1 < e := by
            rcases Nat.eq_or_lt_of_le hp2 with h | h
            · subst h
              exact absurd (by simpa using HR2.out 0 (by omega)) h96
            · exact h
          have H96 := hid h96
          clear h96
          go_wp2_with fail
          go_roundw
          case rel => exact ⟨p1 + 1, bk, by go_num, by omega, hpe, fun _ => by rw [show p1 + 1 - 1 = p1 from by omega]; exact H96.out, HPS1.out, hk1, HK2.out, hk3, HM2.out⟩
          case measure => simp [intOf]; omega
end Go.Proofs.YtgdnbidjdiohkaaGreatDoor
/- The text of the law FnCodeSpan, and what it prints. -/


namespace Go.Proofs.YtgdnbidjdiohkaaGreatDoor
open Go.RowKit
/-- No run of just n backquotes. -/
def NoRun (l : List UInt8) (n : Nat) : Prop := ∀ a b, a < b → b ≤ l.length → (∀ j, a ≤ j → j < b → bt ⟨l.toArray⟩ j = 96) → bt ⟨l.toArray⟩ b ≠ 96 → (a = 0 ∨ bt ⟨l.toArray⟩ (a - 1) ≠ 96) → b - a ≠ n
structure SpanL (l : List UInt8) (n : Nat) : Prop where
  len : l.length ≤ 200
  chr : ∀ c ∈ l, 32 ≤ c.toNat ∧ c.toNat ≤ 126
  n1 : 1 ≤ n
  n2 : n ≤ 20
  run : NoRun l n
  ink : ∃ c ∈ l, isST c = false
def spanM (l : List UInt8) : List UInt8 := 32 :: (l ++ [32])
def spanT (l : List UInt8) (n : Nat) : List UInt8 := [97, 32] ++ List.replicate n 96 ++ spanM l ++ List.replicate n 96
def spanE (l : List UInt8) (n : Nat) : Nat := 2 + n + (l.length + 2)
theorem spanM_len (l : List UInt8) : (spanM l).length = l.length + 2 := by unfold spanM; simp
section
variable {l : List UInt8} {n : Nat}
theorem spanT_len (l : List UInt8) (n : Nat) : (spanT l n).length = spanE l n + n := by
  unfold spanT spanE
  rw [List.length_append, List.length_append, List.length_append, spanM_len]
  simp
theorem span_m (k : Nat) (hk : k < l.length + 2) : (spanT l n)[2 + n + k]? = (spanM l)[k]? := by
  unfold spanT
  have h1 : ([97, 32] ++ List.replicate n 96 : List UInt8).length = 2 + n := by simp; omega
  rw [List.getElem?_append_left (by rw [List.length_append, h1, spanM_len]; omega), List.getElem?_append_right (by omega), h1, show 2 + n + k - (2 + n) = k from by omega]
theorem span_r1 (k : Nat) (hk : k < n) : (spanT l n)[2 + k]? = some 96 := by
  unfold spanT
  rw [List.append_assoc, List.append_assoc, List.getElem?_append_right (by simp), List.getElem?_append_left (by simp; omega), List.getElem?_replicate, if_pos (by simp; omega)]
theorem span_r2 (k : Nat) (hk : k < n) : (spanT l n)[spanE l n + k]? = some 96 := by
  unfold spanT
  have h1 : ([97, 32] ++ List.replicate n 96 ++ spanM l : List UInt8).length = spanE l n := by
    unfold spanE
    rw [List.length_append, List.length_append, spanM_len]; simp
  rw [List.getElem?_append_right (by omega), h1, show spanE l n + k - spanE l n = k from by omega, List.getElem?_replicate, if_pos hk]
theorem span_mid (k : Nat) (hk : k < l.length) : bt ⟨(spanT l n).toArray⟩ (2 + n + (k + 1)) = bt ⟨l.toArray⟩ k := by
  rw [bt_list, bt_list, span_m (k + 1) (by omega)]
  unfold spanM
  rw [List.getElem?_cons_succ, List.getElem?_append_left hk]
theorem span_s1 : bt ⟨(spanT l n).toArray⟩ (2 + n) = 32 := bt_some (c := 32) (span_m 0 (by omega))
theorem span_s2 : bt ⟨(spanT l n).toArray⟩ (2 + n + (l.length + 1)) = 32 := by
  refine bt_some (c := 32) ((span_m (l.length + 1) (by omega)).trans ?_)
  unfold spanM
  rw [List.getElem?_cons_succ, List.getElem?_append_right (Nat.le_refl _), Nat.sub_self]
  rfl
theorem bt_end (t : List UInt8) (k : Nat) (h : t.length ≤ k) : bt ⟨t.toArray⟩ k = 0 := by
  rw [bt_list, List.getElem?_eq_none h]
theorem spanT_mem {c : UInt8} (h : ∀ c ∈ l, 32 ≤ c.toNat ∧ c.toNat ≤ 126) (hc : c ∈ spanT l n) : 32 ≤ c.toNat ∧ c.toNat ≤ 126 := by
  unfold spanT spanM at hc
  simp only [List.mem_append, List.mem_cons, List.not_mem_nil, or_false, List.mem_replicate] at hc
  rcases hc with (((rfl | rfl) | ⟨_, rfl⟩) | (rfl | hc | rfl)) | ⟨_, rfl⟩
  · decide
  · decide
  · decide
  · decide
  · exact h c hc
  · decide
  · decide
theorem spanAt (h : SpanL l n) : SpanAt ⟨(spanT l n).toArray⟩ 2 n (spanE l n) l where
  size := by rw [sz_mk, spanT_len]; have := h.len; have := h.n2; unfold spanE; omega
  n1 := h.n1
  n2 := by have := h.n2; omega
  ie := by unfold spanE; omega
  es := by rw [sz_mk, spanT_len]; exact Nat.le_refl _
  r1 := fun j hj => bt_some (c := 96) (span_r1 j hj)
  r2 := fun j hj => bt_some (c := 96) (span_r2 j hj)
  x1 := by rw [span_s1]; decide
  x2 := by rw [bt_end _ _ (by rw [spanT_len]; exact Nat.le_refl _)]; decide
  x3 := by
    have : spanE l n - 1 = 2 + n + (l.length + 1) := by unfold spanE; omega
    rw [this, span_s2]; decide
  mid := by
    intro a b ha hab hb hall hx hy
    have h1 : a ≠ 2 + n := fun e => by
      have := hall a (Nat.le_refl _) hab
      rw [e, span_s1] at this
      cases this
    have h2 : ¬ (2 + n + (l.length + 1) < b) := fun e => by
      have := hall (2 + n + (l.length + 1)) (by unfold spanE at hb; omega) e
      rw [span_s2] at this
      cases this
    have hq := h.run (a - (2 + n) - 1) (b - (2 + n) - 1) (by omega) (by omega) (fun j hj1 hj2 => by
      rw [← span_mid (n := n) j (by omega)]
      exact hall _ (by omega) (by omega)) (by
      rcases Nat.lt_or_ge (b - (2 + n) - 1) l.length with h3 | h3
      · rw [← span_mid (n := n) _ h3, show 2 + n + (b - (2 + n) - 1 + 1) = b from by omega]
        exact hx
      · rw [bt_end _ _ h3]; decide) (by
      rcases Nat.eq_zero_or_pos (a - (2 + n) - 1) with h3 | h3
      · exact .inl h3
      · refine .inr ?_
        rw [← span_mid (n := n) _ (by omega), show 2 + n + (a - (2 + n) - 1 - 1 + 1) = a - 1 from by omega]
        exact hy)
    omega
  text := by
    rw [extract_mk]
    congr 2
    have h1 : ([97, 32] ++ List.replicate n 96 : List UInt8).length = 2 + n := by simp; omega
    have h2 : (spanT l n).take (spanE l n) = [97, 32] ++ List.replicate n 96 ++ spanM l := by
      unfold spanT
      exact List.take_left' (by rw [List.length_append, h1, spanM_len]; rfl)
    show ((spanT l n).take (spanE l n)).drop (2 + n) = spanM l
    rw [h2]
    exact List.drop_left' h1
  ink := by
    obtain ⟨c, hc, hs⟩ := h.ink
    have := trim_ink (spanM l) ⟨c, by unfold spanM; simp [hc], hs⟩
    cases hh : trimR (trimL (spanM l)) with
    | nil => exact absurd hh this
    | cons a t => unfold spanM at hh; rw [hh]; rfl
  no10 := fun e => by have := h.chr 10 e; simp at this
  len := by have := h.len; omega
theorem spanT_cons (l : List UInt8) (n : Nat) : spanT l n = 97 :: (32 :: (List.replicate n 96 ++ spanM l ++ List.replicate n 96)) := by unfold spanT; simp
theorem span_line (h : SpanL l n) : ParLine ⟨(spanT l n).toArray⟩ := by
  have hb0 : bt ⟨(spanT l n).toArray⟩ 0 = 97 := by rw [spanT_cons]; rfl
  have hb1 : bt ⟨(spanT l n).toArray⟩ 1 = 32 := by rw [spanT_cons]; rfl
  have hb2 : bt ⟨(spanT l n).toArray⟩ 2 = 96 := bt_some (c := 96) (span_r1 0 h.n1)
  have hb3 : bt ⟨(spanT l n).toArray⟩ 3 = 96 ∨ bt ⟨(spanT l n).toArray⟩ 3 = 32 := by
    by_cases h1 : n = 1
    · right
      have := span_s1 (l := l) (n := n)
      rw [h1] at this ⊢
      exact this
    · exact .inl (bt_some (c := 96) (span_r1 1 (by have := h.n1; omega)))
  have hsz : (ByteArray.mk (spanT l n).toArray).size ≤ 100000 := (spanAt h).size
  have htab : ∀ k, bt ⟨(spanT l n).toArray⟩ k ≠ 9 := fun k => bt_mem _ k (fun z => z ≠ 9) (by decide) (fun c hc e => by have := spanT_mem h.chr hc; omega)
  refine { size := hsz, pos := by rw [sz_mk, spanT_cons]; simp, tab := htab, q := fun k hk => ?_, h32 := by rw [hb0]; decide, hr := by rw [hb0]; decide, lt_ := by rw [hb0]; decide, fence := by rw [hb0]; decide, tick := by rw [hb0]; decide, item := ?_ }
  · have : k = 0 ∨ k = 1 ∨ k = 2 ∨ k = 3 := by omega
    rcases this with rfl | rfl | rfl | rfl
    · rw [hb0]; decide
    · rw [hb1]; decide
    · rw [hb2]; decide
    · rcases hb3 with e | e <;> rw [e] <;> decide
  · intro g b nl w hw
    refine startListItem_no g b 0 0 nl _ w hw (by omega) (Nat.zero_le _) htab (fun k hk => ?_)
    rw [reach0 (by rw [hb0]; decide) hk, hb0]
    unfold NoItem
    decide
theorem span_trim (h : SpanL l n) : trimR (trimL (spanT l n)) = spanT l n := by
  refine trim_self _ (fun c hc => ?_) (fun c hc => ?_)
  · rw [spanT_cons] at hc
    cases hc
    decide
  · unfold spanT at hc
    rw [List.getLast?_append] at hc
    have : (List.replicate n (96 : UInt8)).getLast? = some 96 := by
      rw [List.getLast?_replicate, if_neg (by have := h.n1; omega)]
    rw [this] at hc
    cases hc
    decide
theorem InS.drewBack {B g : Nat} {r : PSr} {s : ByteArray} {c : Bool} {bk bk' : List Value} {em : Nat} {ks : List Kind} {w w' : World} (hgB : g < B) (hin : InS B g (psAt r s c bk) em ks w) (hm : Mod (fun k => k = g) w w') (hp : ∀ lst, IsPS w g { psAt r s c bk with emitted := em, list := lst } → IsPS w' g { psAt r s c bk' with emitted := em, list := lst }) : InS B g (psAt r s c bk') em ks w' := by
  obtain ⟨lst, vs, hps, hrow, hln, hits⟩ := hin
  exact ⟨lst, vs, hp lst hps, own_mod hrow hm (fun q hq e => by subst e; have := ownBase hrow hq.symm; omega), hln, hits.mod hm (fun k _ b cs _ hb e => by omega)⟩
set_option maxHeartbeats 800000 in
theorem reset_any (B g : Nat) (r : PSr) (s : ByteArray) (c : Bool) (bk : List Value) (em : Nat) (ks : List Kind) (w : World) (hgB : g < B) (hbk : bk.length = 81) (hin : InS B g (psAt r s c bk) em ks w) :
    Calls Tryz.prog 68 #[.pointer (some ⟨g, 12, none⟩)] w fun e w' => e = .returned (.tuple #[]) ∧ InS B g (psAt r s c zeroBack) em ks w' ∧ Mod (fun k => k = g) w w' := by
  have HIN := hid hin
  obtain ⟨lst, vs, hps, _⟩ := hin
  have hth : w.there g 12 (Tryz.zeroCells93).size := fun j hj => by
    have hj2 : j < 81 := hj
    have hv : bk[j]? = some (bk[j]'(by omega)) := List.getElem?_eq_getElem (by omega)
    rw [show 12 + j = j + 12 from by omega]
    exact ⟨by rw [hps.backAt hv]; rfl, hps.free _⟩
  have hrun : (storeCells ⟨g, 12, none⟩ (Tryz.zeroCells93).toList).run Tryz.prog w = .ok () (w.setCells g 12 (Tryz.zeroCells93).toList) :=
    run_storeCells_cells (P := Tryz.prog) g 12 _ 0 w (fun j hj => (hth j (by simpa using hj)).1) (fun j hj => (hth j (by simpa using hj)).2) (by
      rw [zeroBackA]
      intro v hv
      rcases List.mem_append.1 hv with h | h
      · rw [(List.mem_replicate.1 h).2]; rfl
      · simp only [List.mem_cons, List.not_mem_nil, or_false] at h; subst h; rfl)
  have hnew := hid (InS.drewBack hgB HIN.out (mod_setMany (S := fun k => k = g) rfl (Tryz.zeroCells93).toList 12 w) (bk' := zeroBack) (fun lst hp => by
    have := hp.setBack (Tryz.zeroCells93).toList (by rw [zeroBackA]; simpa using hbk)
    rw [zeroBackA] at this ⊢
    exact this))
  have hmod := hid (mod_setMany (S := fun k => k = g) (g := g) rfl (Tryz.zeroCells93).toList 12 w)
  clear hps hth
  go_enter Tryz.func68, Tryz.ntmps68
  go_wp2_with (at_builtin; fail)
  go_end0
  exact ⟨rfl, hnew.out, hmod.out⟩
end
end Go.Proofs.YtgdnbidjdiohkaaGreatDoor
/- What the law FnCodeSpan calls: printable, hasRun, shorn. -/


namespace Go.Proofs.YtgdnbidjdiohkaaGreatDoor
open Go.RowKit
def PrintP2 (l : List UInt8) (m : Nat) : Prop := l.length ≤ m ∧ ∀ c ∈ l, 32 ≤ c.toNat ∧ c.toNat ≤ 126
set_option maxRecDepth 20000 in
theorem printable_any (l : List UInt8) (m : Nat) (w : World) (_ : m ≤ 1000000) (_ : l.length ≤ 9223372036854775807) : Calls Tryz.prog 21 #[.string ⟨l.toArray⟩, .int .i64 m] w (BoolF (PrintP2 l m) w) := by
  by_cases hlen : l.length ≤ m
  · have hb := get_bt ⟨l.toArray⟩
    have hsz : (ByteArray.mk l.toArray).size = l.length := sz_mk l
    go_enter Tryz.func21, Tryz.ntmps21
    go_wp2_with fail
    go_loopw [5, 12] (fun _ t12 wr => ∃ k : Nat, t12 = .int .i64 k ∧ k ≤ l.length ∧ (∀ c ∈ l.take k, 32 ≤ c.toNat ∧ c.toNat ≤ 126) ∧ wr = w) (fun _ t12 _ => l.length + 1 - (intOf t12).toNat)
    case atStart => exact ⟨0, rfl, Nat.zero_le _, fun c hc => by simp at hc, rfl⟩
    case round =>
      obtain ⟨k, rfl, hk, hin, rfl⟩ := hrel
      have HIN := hid hin
      clear hin
      by_cases hlt : k < l.length
      · obtain ⟨c, hc1, hc2, hc3⟩ := bt_get hlt
        by_cases hlo : bt ⟨l.toArray⟩ k < 32
        · go_wp2_with fail
          go_ret
          exact BoolF.no _
        · by_cases hhi : 126 < bt ⟨l.toArray⟩ k
          · go_wp2_with fail
            go_ret
            exact BoolF.no _
          · have HC := hid hc1
            have HC3 := hid hc3
            clear hc1 hc2 hc3
            go_wp2_with fail
            go_roundw
            case rel => exact ⟨k + 1, by go_num, hlt, fun x hx => by
              rw [List.take_add_one, HC.out] at hx
              rcases List.mem_append.1 hx with h | h
              · exact HIN.out x h
              · simp at h
                subst h
                rw [HC3.out] at hlo hhi
                omega, trivial⟩
            case measure => simp [intOf]; omega
      · obtain rfl : k = l.length := by omega
        rw [List.take_of_length_le (Nat.le_refl _)] at HIN
        go_wp2_with fail
        go_ret
        exact BoolF.yes _ ⟨hlen, HIN.out⟩
  · have hsz : (ByteArray.mk l.toArray).size = l.length := sz_mk l
    go_enter Tryz.func21, Tryz.ntmps21
    go_wp2_with fail
    go_ret
    exact BoolF.no _
set_option maxRecDepth 20000 in
theorem runLength_any (s : ByteArray) (i b : Nat) (w : World) (_ : s.size ≤ 1000000) (hib : i ≤ b) (hbs : b ≤ s.size) (hall : ∀ j, i ≤ j → j < b → bt s j = 96) (hx : bt s b ≠ 96) :
    Calls Tryz.prog 34 #[.string s, .int .i64 i, .int .u8 96] w fun e w' => e = .returned (.int .i64 ((b - i : Nat) : Int)) ∧ w = w' := by
  have hb := get_bt s
  have HALL := hid hall
  have e1 : (bt s b == 96) = false := by simpa using hx
  clear hall
  go_enter Tryz.func34, Tryz.ntmps34
  go_wp2_with fail
  go_loopw [7] (fun t7 wr => ∃ m : Nat, t7 = .int .i64 m ∧ i + m ≤ b ∧ wr = w) (fun t7 _ => b + 1 - (intOf t7).toNat)
  case atStart => exact ⟨0, rfl, by omega, rfl⟩
  case round =>
    obtain ⟨m, rfl, hm, rfl⟩ := hrel
    by_cases hlt : i + m < b
    · have e2 : (bt s (i + m) == 96) = true := by simpa using HALL.out (i + m) (by omega) hlt
      go_wp2_with fail
      go_roundw
      case rel => exact ⟨m + 1, by go_num, by omega, trivial⟩
      case measure => simp [intOf]; omega
    · obtain rfl : b = i + m := by omega
      by_cases hend : i + m < s.size
      · go_wp2_with fail
        go_ret
        exact ⟨by first | (rw [show i + m - i = m from by omega]; rfl) | rfl, rfl⟩
      · go_wp2_with fail
        go_ret
        exact ⟨by first | (rw [show i + m - i = m from by omega]; rfl) | rfl, rfl⟩
/-- No run of n that ends by i. -/
def DoneTo (l : List UInt8) (n i : Nat) : Prop := ∀ a b, a < b → b ≤ i → (∀ j, a ≤ j → j < b → bt ⟨l.toArray⟩ j = 96) → bt ⟨l.toArray⟩ b ≠ 96 → (a = 0 ∨ bt ⟨l.toArray⟩ (a - 1) ≠ 96) → b - a ≠ n
set_option maxRecDepth 20000 in
set_option maxHeartbeats 1600000 in
theorem hasRun_any (l : List UInt8) (n : Nat) (w : World) (hl : l.length ≤ 1000) (hn1 : 1 ≤ n) (hn : n ≤ 100) :
    Calls Tryz.prog 22 #[.string ⟨l.toArray⟩, .int .i64 n] w fun e w' => (∃ b, e = .returned (.bool b) ∧ (b = false → NoRun l n)) ∧ w = w' := by
  have hsz : (ByteArray.mk l.toArray).size = l.length := sz_mk l
  go_enter Tryz.func22, Tryz.ntmps22
  go_wp2_with fail
  go_loopw [5] (fun t5 wr => ∃ i : Nat, t5 = .int .i64 i ∧ i ≤ l.length ∧ DoneTo l n i ∧ (i = 0 ∨ bt ⟨l.toArray⟩ (i - 1) ≠ 96 ∨ bt ⟨l.toArray⟩ i ≠ 96) ∧ wr = w) (fun t5 _ => l.length + 1 - (intOf t5).toNat)
  case atStart => exact ⟨0, rfl, Nat.zero_le _, fun a b h1 h2 => by omega, .inl rfl, rfl⟩
  case round =>
    obtain ⟨i, rfl, hi, hd, hbd, rfl⟩ := hrel
    have HD := hid hd
    have HBD := hid hbd
    clear hd hbd
    by_cases hlt : i < l.length
    · obtain ⟨b, q1, q2, q3, q4⟩ := run_end ⟨l.toArray⟩ l.length i (by omega) (by omega)
      have HR := hid (runLength_any ⟨l.toArray⟩ i b wr (by omega) q1 q2 q3 q4)
      have HQ3 := hid q3
      have HQ4 := hid q4
      clear q3 q4
      go_wp2_with fail
      refine HR.out.mono ?_
      rintro e w' ⟨rfl, rfl⟩
      have hmm : b - i ≤ 1000 := by omega
      generalize hm : b - i = m at hmm ⊢
      have HM := hid hm
      clear hm HR
      by_cases hmn : m = n
      · go_wp2_with fail
        go_ret
        exact ⟨⟨true, rfl, fun h => by cases h⟩, rfl⟩
      · have HNE := hid hmn
        have step : DoneTo l n (i + (if m = 0 then 1 else m)) ∧ (bt ⟨l.toArray⟩ (i + (if m = 0 then 1 else m) - 1) ≠ 96 ∨ bt ⟨l.toArray⟩ (i + (if m = 0 then 1 else m)) ≠ 96) := by
          have hmv := HM.out
          by_cases h0 : m = 0
          · rw [if_pos h0]
            have hbi : b = i := by omega
            have hbt := HQ4.out
            rw [hbi] at hbt
            refine ⟨fun x y h1 h2 h3 h4 h5 => ?_, .inl (by rw [show i + 1 - 1 = i from by omega]; exact hbt)⟩
            rcases Nat.lt_or_ge i y with h | h
            · exact absurd (h3 i (by omega) h) hbt
            · exact HD.out x y h1 h h3 h4 h5
          · rw [if_neg h0, show i + m = b from by omega]
            refine ⟨fun x y h1 h2 h3 h4 h5 => ?_, .inr HQ4.out⟩
            rcases Nat.lt_or_ge i y with h | h
            · have hy : y = b := by
                rcases Nat.lt_or_ge y b with h6 | h6
                · exact absurd (HQ3.out y (by omega) h6) h4
                · omega
              subst hy
              have hx : x = i := by
                rcases Nat.lt_or_ge x i with h6 | h6
                · exfalso
                  have e1 := h3 (i - 1) (by omega) (by omega)
                  have e2 := HQ3.out i (Nat.le_refl _) (by omega)
                  rcases HBD.out with q | q | q
                  · omega
                  · exact q e1
                  · exact q e2
                · rcases Nat.eq_or_lt_of_le h6 with h7 | h7
                  · exact h7.symm
                  · exfalso
                    rcases h5 with q | q
                    · omega
                    · exact q (HQ3.out (x - 1) (by omega) (by omega))
              subst hx
              have := HNE.out
              omega
            · exact HD.out x y h1 h h3 h4 h5
        have HST := hid step
        have hle : i + (if m = 0 then 1 else m) ≤ l.length := by
          have := HM.out
          split <;> omega
        clear step
        by_cases h0 : m = 0
        · subst h0
          go_wp2_with fail
          go_roundw
          case rel => exact ⟨i + 1, by go_num, hlt, HST.out.1, .inr HST.out.2, trivial⟩
          case measure => simp [intOf]; omega
        · have hm1 : 1 ≤ m := by omega
          rw [if_neg h0] at HST hle
          go_wp2_with fail
          go_roundw
          case rel => exact ⟨i + m, by go_num, hle, HST.out.1, .inr HST.out.2, trivial⟩
          case measure => simp [intOf]; omega
    · obtain rfl : i = l.length := by omega
      go_wp2_with fail
      go_ret
      exact ⟨⟨false, rfl, fun _ => HD.out⟩, rfl⟩
def blankI (z : Int) : Prop := z = 32 ∨ z = 9 ∨ z = 10 ∨ z = 13
set_option maxRecDepth 20000 in
theorem isBlank_any2 (z : Int) (w : World) : Calls Tryz.prog 35 #[.int .u8 z] w fun e w' => (∃ b, e = .returned (.bool b) ∧ (b = false → ¬ blankI z)) ∧ w = w' := by
  by_cases h1 : z = 32
  · subst h1
    go_enter Tryz.func35, Tryz.ntmps35
    go_wp2_with fail
    go_ret
    exact ⟨⟨true, rfl, fun h => by cases h⟩, rfl⟩
  · by_cases h2 : z = 9
    · subst h2
      go_enter Tryz.func35, Tryz.ntmps35
      go_wp2_with fail
      go_ret
      exact ⟨⟨true, rfl, fun h => by cases h⟩, rfl⟩
    · by_cases h3 : z = 10
      · subst h3
        go_enter Tryz.func35, Tryz.ntmps35
        go_wp2_with fail
        go_ret
        exact ⟨⟨true, rfl, fun h => by cases h⟩, rfl⟩
      · by_cases h4 : z = 13
        · subst h4
          go_enter Tryz.func35, Tryz.ntmps35
          go_wp2_with fail
          go_ret
          exact ⟨⟨true, rfl, fun h => by cases h⟩, rfl⟩
        · have b1 : (z == 32) = false := by simpa using h1
          have b2 : (z == 9) = false := by simpa using h2
          have b3 : (z == 10) = false := by simpa using h3
          have b4 : (z == 13) = false := by simpa using h4
          go_enter Tryz.func35, Tryz.ntmps35
          go_wp2_with fail
          go_ret
          exact ⟨⟨false, rfl, fun _ => by unfold blankI; omega⟩, rfl⟩
set_option maxRecDepth 20000 in
set_option maxHeartbeats 1600000 in
theorem shorn_any (l : List UInt8) (w : World) (hl : l.length ≤ 1000) : Calls Tryz.prog 23 #[.string ⟨l.toArray⟩] w fun e w' => (∃ y : ByteArray, e = .returned (.string y) ∧ (y.data.toList ≠ [] → ∃ c ∈ l, ¬ blankI (c.toNat : Int))) ∧ w = w' := by
  have hb := get_bt ⟨l.toArray⟩
  have hsz : (ByteArray.mk l.toArray).size = l.length := sz_mk l
  have HBL := hid isBlank_any2
  go_enter Tryz.func23, Tryz.ntmps23
  go_wp2_with fail
  go_loopw [3] (fun t3 wr => ∃ i : Nat, t3 = .int .i64 i ∧ i ≤ l.length ∧ wr = w) (fun t3 _ => l.length + 1 - (intOf t3).toNat)
  case atStart => exact ⟨0, rfl, Nat.zero_le _, rfl⟩
  case round =>
    obtain ⟨i, rfl, hi, rfl⟩ := hrel
    have second : (i < l.length → ∃ c ∈ l, ¬ blankI (c.toNat : Int)) → True := fun _ => trivial
    by_cases hlt : i < l.length
    · obtain ⟨c, hc1, hc2, hc3⟩ := bt_get hlt
      have HC2 := hid hc2
      have HC3 := hid hc3
      clear hc1 hc2 hc3
      go_wp2_with fail
      refine (HBL.out (bt ⟨l.toArray⟩ i) wr).mono ?_
      rintro e w' ⟨⟨b, rfl, hbk⟩, rfl⟩
      cases b with
      | true =>
        go_wp2_with fail
        go_roundw
        case rel => exact ⟨i + 1, by go_num, hlt, trivial⟩
        case measure => simp [intOf]; omega
      | false =>
        have hex : ∃ c ∈ l, ¬ blankI (c.toNat : Int) := ⟨c, HC2.out, by rw [← HC3.out]; exact hbk rfl⟩
        clear hbk second
        have HEX := hid hex
        clear hex
        go_wp2_with fail
        go_loopw [4] (fun t4 wx => ∃ k : Nat, t4 = .int .i64 k ∧ i ≤ k ∧ k ≤ l.length ∧ wx = wr) (fun t4 _ => (intOf t4).toNat)
        case atStart => exact ⟨l.length, rfl, hi, Nat.le_refl _, rfl⟩
        case round =>
          obtain ⟨k, rfl, hik, hkl, rfl⟩ := hrel
          by_cases hlt2 : i < k
          · go_wp2_with fail
            refine (HBL.out (bt ⟨l.toArray⟩ (k - 1)) wr).mono ?_
            rintro e w' ⟨⟨b, rfl, _⟩, rfl⟩
            cases b with
            | true =>
              go_wp2_with fail
              go_roundw
              case rel => exact ⟨k - 1, by go_num, by omega, by omega, trivial⟩
              case measure => simp [intOf]; omega
            | false =>
              go_wp2_with fail
              go_ret
              exact ⟨⟨_, rfl, fun _ => HEX.out⟩, rfl⟩
          · go_wp2_with fail
            go_ret
            exact ⟨⟨_, rfl, fun _ => HEX.out⟩, rfl⟩
    · obtain rfl : i = l.length := by omega
      go_wp2_with fail
      refine wp_loop_rounds 1 ?_
      rw [rounds_succ]
      go_wp2_with fail
      go_ret
      exact ⟨⟨_, rfl, fun h => absurd (by simp) h⟩, rfl⟩
end Go.Proofs.YtgdnbidjdiohkaaGreatDoor
/- A code span among words: how it is read, and what it prints. -/


namespace Go.Proofs.YtgdnbidjdiohkaaGreatDoor
open Go.RowKit
def codeOutS (l : List UInt8) : List UInt8 := [60, 99, 111, 100, 101, 62] ++ esc l ++ [60, 47, 99, 111, 100, 101, 62]
theorem span_bytes (l : List UInt8) : (ByteArray.mk #[60, 99, 111, 100, 101, 62] ++ ByteArray.mk (esc l).toArray) ++ ByteArray.mk #[60, 47, 99, 111, 100, 101, 62] = ⟨(codeOutS l).toArray⟩ := by
  rw [show ByteArray.mk #[60, 99, 111, 100, 101, 62] = ⟨[60, 99, 111, 100, 101, 62].toArray⟩ from rfl, show ByteArray.mk #[60, 47, 99, 111, 100, 101, 62] = ⟨[60, 47, 99, 111, 100, 101, 62].toArray⟩ from rfl]
  simp only [cat_lists]
  rfl
set_option maxRecDepth 20000 in
set_option maxHeartbeats 1600000 in
theorem codeSHTML_any (B b pb : Nat) (bs : List UInt8) (l : List UInt8) (w : World) (hblk : Blk w pb 183 #[.string ⟨l.toArray⟩]) (hbuf : IsBuf B b bs w) (hB : B ≤ w.heap.size) (hs : l.length ≤ 10000) (hl : bs.length ≤ 1000000) :
    Calls Tryz.prog 301 #[.pointer (some ⟨pb, 0, none⟩), .pointer (some ⟨b, 0, none⟩)] w (PrintP B b bs (codeOutS l) w) := by
  have c0 := hblk.at_ 0 rfl
  have HBLK := hid hblk
  have HBUF := hid hbuf
  have hg := hblk.lt
  have hel : (esc l).length ≤ 60000 := Nat.le_trans (esc_len l) (by omega)
  have hcl : (codeOutS l).length ≤ 60013 := by unfold codeOutS; simp only [List.length_append, List.length_cons, List.length_nil]; omega
  have hc1 : ¬ 9223372036854775807 < 6 + (esc l).length := by omega
  have hc2 : ¬ 9223372036854775807 < 6 + (esc l).length + 7 := by omega
  have HSB := hid (span_bytes l)
  clear hblk hbuf
  go_enter Tryz.func301, Tryz.ntmps301
  go_region_law (first
    | (go_simp; go_at_call 260; refine (htmlEscaper_any _).mono ?_; rintro e w4 ⟨n4, rfl, hn4, hp4, hb4⟩; have c0' := Blk.at_ (Blk.mod (w := World.drew w) (S := fun _ => False) HBLK.out (Mod.below' hb4) (fun x => x)) 0 rfl)
    | (go_simp; go_at_call 268; refine (replace_any n4 ⟨l.toArray⟩ _ hp4 (bsz (by omega))).mono ?_; rintro e w5 ⟨rfl, hb5⟩)
    | (go_simp; go_at_call 248; rw [HSB.out]; refine (write_str B b bs ⟨(codeOutS l).toArray⟩ w5 (IsBuf.old (IsBuf.old (w := World.drew w) HBUF.out hb4) hb5) (Nat.le_trans (Nat.le_trans hB hb4.size) hb5.size) (by rw [sz_mk]; omega)).mono ?_; rintro e w6 ⟨rfl, hi6, hb6, hk6⟩))
  all_goals go_wp2
  all_goals go_end0
  all_goals exact ⟨rfl, hi6, ((below_drewN (Below.refl B w) 1).trans (hb4.mono hB)).trans ((hb5.mono (Nat.le_trans hB hb4.size)).trans hb6), (show Kept b (World.drew w) w6 from Lib.OthersKept.trans (Lib.OthersKept.below (Lib.OthersKept.below (Lib.OthersKept.refl _ _ (World.drew w)) hb4) hb5) hk6)⟩
theorem code_kprints (l : List UInt8) (hl : l.length ≤ 10000) : KPrints (codeK l) (codeOutS l) := by
  rintro w B0 b bs v ⟨pb, rfl, hblk, _⟩ hb
  refine ⟨_, _, 301, .pointer (some ⟨pb, 0, none⟩), rfl, fun W => by kernel_rfl, Go.Proofs.enters_of Tryz.func301 (by kernel_rfl) rfl, fun B W hk hbf hB hlen => ?_⟩
  have hblk' : Blk W pb 183 #[.string ⟨l.toArray⟩] := hblk.kept hk (by have := hblk.lt; omega) (by decide : (183 : Nat) ≠ 5)
  exact codeSHTML_any B b pb bs l W hblk' hbf hB hl (by omega)
def outS (k : Kind) : List UInt8 := match plainOf k with
  | some l => esc l
  | none => match k.cs with
    | [.string s] => codeOutS s.data.toList
    | _ => []
theorem outS_plain (l : List UInt8) : outS (plainK l) = esc l := by unfold outS; rw [plainOf_plain]
theorem plainOf_code (l : List UInt8) : plainOf (codeK l) = none := by
  unfold plainOf
  rw [if_neg]
  rintro ⟨h, _⟩
  exact absurd h (by decide : (182 : Nat) ≠ 156)
theorem outS_code (l : List UInt8) : outS (codeK l) = codeOutS l := by
  unfold outS
  rw [plainOf_code]
  show codeOutS (ByteArray.mk l.toArray).data.toList = _
  simp
theorem inlC_span {l : List UInt8} {n : Nat} (h : SpanL l n) : InlC plainO (spanT l n) ([97, 32] ++ codeOutS l) := by
  have hA := spanAt h
  have hlen := h.len
  have hn2 := h.n2
  have hsz : (ByteArray.mk (spanT l n).toArray).size = spanE l n + n := by rw [sz_mk, spanT_len]
  have hE : spanE l n = 2 + n + (l.length + 2) := rfl
  have hb0 : bt ⟨(spanT l n).toArray⟩ 0 = 97 := by rw [spanT_cons]; rfl
  have hb1 : bt ⟨(spanT l n).toArray⟩ 1 = 32 := by rw [spanT_cons]; rfl
  have hb2 : bt ⟨(spanT l n).toArray⟩ 2 = 96 := hA.r1 0 h.n1
  have hp1 : pieceK ⟨(spanT l n).toArray⟩ 0 2 = [plainK [97, 32]] := by
    unfold pieceK
    rw [if_pos (by omega), spanT_cons]
    simp
  have hp2 : pieceK ⟨(spanT l n).toArray⟩ (ByteArray.mk (spanT l n).toArray).size (ByteArray.mk (spanT l n).toArray).size = [] := by
    unfold pieceK
    rw [if_neg (Nat.lt_irrefl _)]
  refine inlC_of plainO _ _ (fun i em tk bk ks => (tk = false ∧ em = 0 ∧ ks = [] ∧ i ≤ 2 ∧ bk.length = 81) ∨ (i = spanE l n + n ∧ em = spanE l n + n ∧ ks = [plainK [97, 32], codeK l])) (fun ks => ks = [plainK [97, 32], codeK l]) rfl (by rw [spanT_len]; omega) (span_trim h) (fun g r w hps hpar hne hbk => ?_) (fun ks hF _ => ?_)
  · have hgB : g < w.heap.size := hps.lt
    refine { start := .inl ⟨rfl, rfl, rfl, Nat.zero_le _, hbk⟩, fin := ?_, quiet := ?_, tick := ?_, call := ?_ }
    · rintro em tk bk ks (⟨_, _, _, h2, _⟩ | ⟨_, rfl, rfl⟩)
      · rw [hsz] at h2; omega
      · rw [← hsz, hp2, List.append_nil]
    · rintro i em tk bk ks (⟨h1, h2, h3, h4, h5⟩ | ⟨rfl, _⟩) _ hi hpf
      · refine .inl ⟨h1, h2, h3, ?_, h5⟩
        have : i ≠ 2 := fun e => by rw [e, hb2] at hpf; cases hpf
        omega
      · rw [hsz] at hi; omega
    · rintro i em tk bk ks (⟨h1, h2, h3, h4, h5⟩ | ⟨rfl, _⟩) _ hi _ htk c W hin
      · exact reset_any w.heap.size g r _ c bk em ks W hgB h5 hin
      · rw [hsz] at hi; omega
    · rintro i em tk bk ks f rv (⟨rfl, rfl, rfl, h4, h5⟩ | ⟨rfl, _⟩) _ hi hpf c W hin hm
      · have hi2 : i = 2 := by
          have : i = 0 ∨ i = 1 ∨ i = 2 := by omega
          rcases this with rfl | rfl | rfl
          · rw [hb0] at hpf; cases hpf
          · rw [hb1] at hpf; cases hpf
          · rfl
        subst hi2
        rw [hb2] at hpf hin
        simp only [parF, show ¬ ((96 : Int) = 92) from by decide, if_false, if_true, Option.some.injEq, Prod.mk.injEq] at hpf
        obtain ⟨rfl, rfl⟩ := hpf
        have hz : bkAt 96 false bk = zeroBack := by unfold bkAt; rw [if_pos ⟨rfl, rfl⟩]
        rw [hz] at hin
        obtain ⟨lst, vs, hps1, hrow1, hln1, hits1⟩ := hin
        refine (parseCode_yes g _ (.pointer (some ⟨g, 0, none⟩)) ⟨(spanT l n).toArray⟩ 2 n (spanE l n) l W hps1 (by simp [zeroBack]) (fun k hk => ⟨.int .i64 0, by
          show zeroBack[k]? = _
          unfold zeroBack
          rw [List.getElem?_append_left (by simpa using hk), List.getElem?_replicate, if_pos hk]⟩) rfl hA).mono ?_
        rintro e w' ⟨q, bk', rfl, hq, hblk, hps', hm'⟩
        have hWs : w.heap.size ≤ W.heap.size := hm.size
        refine ⟨c, bk', ⟨lst, vs, hps', own_mod hrow1 hm' (fun k hk e => by subst e; have := ownBase hrow1 hk.symm; omega), hln1, hits1.mod hm' (fun k _ b cs _ hb e => by omega)⟩, hm'.mono (fun k _ e => .inl e), .inr ⟨_, codeK l, 2, spanE l n + n, rfl, ⟨q, rfl, hblk, Nat.le_trans hWs hq⟩, ⟨codeK_ok l, fun _ => codeK_sure l⟩, Nat.zero_le _, by rw [hsz]; omega, by omega, by omega, by rw [hsz]; exact Nat.le_refl _, .inr ⟨rfl, rfl, ?_⟩⟩⟩
        rw [hp1]
        rfl
      · rw [hsz] at hi; omega
  · subst hF
    refine ⟨by simp, by simp [plainOf_plain, plainOf_code], outS, outS_plain, fun k hk hnk => ?_, ?_⟩
    · simp only [List.mem_cons, List.not_mem_nil, or_false] at hk
      rcases hk with rfl | rfl
      · exact absurd rfl (hnk _)
      · rw [outS_code]
        exact code_kprints l (by omega)
    · simp only [List.flatMap_cons, List.flatMap_nil, outS_plain, outS_code, List.append_nil]
      rfl
end Go.Proofs.YtgdnbidjdiohkaaGreatDoor
/- The library's contracts on strings.Repeat, laid at this program. -/



namespace Go.Proofs
open Go.Shelf
def Tryz.layRP_ren : Go.Shelf.Ren := ⟨fun | 105 => 24 | 212 => 36 | 99 => 37 | 165 => 38 | 166 => 39 | 170 => 40 | 169 => 41 | 263 => 45 | 264 => 46 | 206 => 47 | 240 => 48 | 241 => 49 | 276 => 59 | 277 => 60 | n => n, fun | 9 => 9 | 3 => 3 | 4 => 4 | 20 => 20 | 0 => 0 | 46 => 52 | 109 => 53 | 5 => 5 | 72 => 58 | 76 => 62 | 51 => 39 | 146 => 79 | 53 => 81 | 148 => 82 | 70 => 56 | 37 => 49 | 75 => 61 | 127 => 84 | 164 => 113 | 80 => 65 | n => n, fun | n => n⟩
theorem Tryz.layRP : Go.Proofs.Lays.n105 Tryz.prog Tryz.layRP_ren := {
  mixed := by kernel_rfl
  f99 := Tryz.func37.trans (congrArg some (by kernel_rfl))
  f105 := Tryz.func24.trans (congrArg some (by kernel_rfl))
  f165 := Tryz.func38.trans (congrArg some (by kernel_rfl))
  f166 := Tryz.func39.trans (congrArg some (by kernel_rfl))
  f169 := Tryz.func41.trans (congrArg some (by kernel_rfl))
  f170 := Tryz.func40.trans (congrArg some (by kernel_rfl))
  f206 := Tryz.func47.trans (congrArg some (by kernel_rfl))
  f212 := Tryz.func36.trans (congrArg some (by kernel_rfl))
  f240 := Tryz.func48.trans (congrArg some (by kernel_rfl))
  f241 := Tryz.func49.trans (congrArg some (by kernel_rfl))
  f263 := Tryz.func45.trans (congrArg some (by kernel_rfl))
  f264 := Tryz.func46.trans (congrArg some (by kernel_rfl))
  f276 := Tryz.func59.trans (congrArg some (by kernel_rfl))
  f277 := Tryz.func60.trans (congrArg some (by kernel_rfl))
  t0 := Tryz.underlying0
  a0 := Tryz.isAgg0
  z0 := Tryz.sizeOf0
  v0 := Tryz.zeroValue0
  t3 := Tryz.underlying3
  a3 := Tryz.isAgg3
  z3 := Tryz.sizeOf3
  v3 := Tryz.zeroValue3
  t4 := Tryz.underlying4
  a4 := Tryz.isAgg4
  z4 := Tryz.sizeOf4
  v4 := Tryz.zeroValue4
  t5 := Tryz.underlying5
  a5 := Tryz.isAgg5
  z5 := Tryz.sizeOf5
  v5 := Tryz.zeroValue5
  t9 := Tryz.underlying9
  a9 := Tryz.isAgg9
  z9 := Tryz.sizeOf9
  v9 := Tryz.zeroValue9
  t20 := Tryz.underlying20
  a20 := Tryz.isAgg20
  z20 := Tryz.sizeOf20
  v20 := Tryz.zeroValue20
  t37 := Tryz.underlying49
  a37 := Tryz.isAgg49
  z37 := Tryz.sizeOf49
  v37 := Tryz.zeroValue49
  t46 := Tryz.underlying52
  a46 := Tryz.isAgg52
  z46 := Tryz.sizeOf52
  v46 := Tryz.zeroValue52
  t51 := Tryz.underlying39
  a51 := Tryz.isAgg39
  z51 := Tryz.sizeOf39
  v51 := Tryz.zeroValue39
  t53 := Tryz.underlying81
  a53 := Tryz.isAgg81
  z53 := Tryz.sizeOf81
  v53 := Tryz.zeroValue81
  t70 := Tryz.underlying56
  a70 := Tryz.isAgg56
  z70 := Tryz.sizeOf56
  v70 := Tryz.zeroValue56
  t72 := Tryz.underlying58
  a72 := Tryz.isAgg58
  z72 := Tryz.sizeOf58
  v72 := Tryz.zeroValue58
  t75 := Tryz.underlying61
  a75 := Tryz.isAgg61
  z75 := Tryz.sizeOf61
  v75 := Tryz.zeroValue61
  t76 := Tryz.underlying62
  a76 := Tryz.isAgg62
  z76 := Tryz.sizeOf62
  v76 := Tryz.zeroValue62
  t109 := Tryz.underlying53
  a109 := Tryz.isAgg53
  z109 := Tryz.sizeOf53
  v109 := Tryz.zeroValue53
  t127 := Tryz.underlying84
  a127 := Tryz.isAgg84
  z127 := Tryz.sizeOf84
  v127 := Tryz.zeroValue84
  t146 := Tryz.underlying79
  a146 := Tryz.isAgg79
  z146 := Tryz.sizeOf79
  v146 := Tryz.zeroValue79
  t148 := Tryz.underlying82
  a148 := Tryz.isAgg82
  z148 := Tryz.sizeOf82
  v148 := Tryz.zeroValue82
  t164 := Tryz.underlying113
  a164 := Tryz.isAgg113
  z164 := Tryz.sizeOf113
  v164 := Tryz.zeroValue113 }
end Go.Proofs
/- strings.Repeat, whatever the count. -/


namespace Go.Proofs.YtgdnbidjdiohkaaGreatDoor
open Go.RowKit
theorem bldExtraR : Builder.Extra Tryz.prog Tryz.layRP_ren where
  sizeBuilder := by kernel_rfl
  liesBuilder := by kernel_rfl
  t5 := Tryz.underlying5
  a5 := Tryz.isAgg5
  z5 := Tryz.sizeOf5
  v5 := Tryz.zeroValue5
  infoByte := by kernel_rfl
  cellsByte := by kernel_rfl
  sizeByte := by kernel_rfl
  neB5 := by decide
theorem repeat_any (s : ByteArray) (c : Nat) (w : World) (hc : c ≤ 1000000) (hs : s.size ≤ 1000000) :
    Calls Tryz.prog 24 #[.string s, .int .i64 c] w fun e w' => e = .returned (.string ⟨(Lib.repeatL s.data.toList c).toArray⟩) ∧ Below w.heap.size w w' :=
  Any.strings_Repeat Tryz.layRP bldExtraR s c w (by omega) (Nat.le_trans (Nat.mul_le_mul hs hc) (by decide))
theorem repeatL_one1 (c : UInt8) (n : Nat) : Lib.repeatL [c] n = List.replicate n c := by
  induction n with
  | zero => rfl
  | succ n ih =>
    rw [Lib.repeatL_add [c] n 1, ih, Lib.repeatL_one, List.replicate_succ']
end Go.Proofs.YtgdnbidjdiohkaaGreatDoor
/- The walk of the law FnCodeSpan: for every text it returns true. -/



namespace Go.Proofs.YtgdnbidjdiohkaaGreatDoor
open Go.RowKit
def spanOut (l : List UInt8) : List UInt8 := [97, 32] ++ codeOutS l
theorem rep_any2 (c : UInt8) (n : Nat) (w : World) (hn : n ≤ 100000) : Calls Tryz.prog 24 #[.string ⟨#[c]⟩, .int .i64 n] w fun e w' => e = .returned (.string (repF n c)) ∧ Below w.heap.size w w' := by
  refine (repeat_any ⟨#[c]⟩ n w (by omega) (by show 1 ≤ 1000000; omega)).mono ?_
  rintro e w' ⟨rfl, hb⟩
  refine ⟨?_, hb⟩
  rw [show (ByteArray.mk #[c]).data.toList = [c] from rfl, repeatL_one1]
  rfl
theorem HTML_span (s : ByteArray) (l : List UInt8) (n : Nat) (w : World) (hs : s = ⟨(spanT l n).toArray⟩) (h : SpanL l n) :
    Calls Tryz.prog 12 #[.agg #[.bool false, .bool false, .bool false, .bool false, .bool false, .bool false, .bool false, .bool false, .bool false, .bool false], .string s] w fun e w' => e = .returned (.string ⟨(paraOut (spanOut l)).toArray⟩) ∧ Below w.heap.size w w' := by
  subst hs
  have hno : ∀ x ∈ spanT l n, x ≠ 10 ∧ x ≠ 13 ∧ x ≠ 0 := fun x hx => by
    have := spanT_mem h.chr hx
    refine ⟨?_, ?_, ?_⟩ <;> (rintro rfl; simp at this)
  refine HTML_par plainO (spanT l n) _ w (span_line h) ⟨fun e => (hno _ e).1 rfl, fun e => (hno _ e).2.1 rfl, fun e => (hno _ e).2.2 rfl⟩ ?_ (inlC_span h) rfl ?_
  · rw [show bt ⟨(spanT l n).toArray⟩ 0 = 97 from by rw [spanT_cons]; rfl]; decide
  · have h1 := esc_len l
    have h2 := h.len
    unfold spanOut codeOutS
    simp only [List.length_append, List.length_cons, List.length_nil]
    omega
theorem span_text (l : List UInt8) (n : Nat) : ((((ByteArray.mk #[97, 32] ++ repF n 96) ++ ByteArray.mk #[32]) ++ ByteArray.mk l.toArray) ++ ByteArray.mk #[32]) ++ repF n 96 = ⟨(spanT l n).toArray⟩ := by
  unfold repF spanT spanM
  rw [show ByteArray.mk #[97, 32] = ⟨[97, 32].toArray⟩ from rfl, show ByteArray.mk #[32] = ⟨[32].toArray⟩ from rfl]
  simp only [cat_lists]
  simp
theorem span_out (l : List UInt8) : (ByteArray.mk (paraOut (spanOut l)).toArray) = (ByteArray.mk #[60, 112, 62, 97, 32, 60, 99, 111, 100, 101, 62] ++ ByteArray.mk (esc l).toArray) ++ ByteArray.mk #[60, 47, 99, 111, 100, 101, 62, 60, 47, 112, 62, 10] := by
  rw [show ByteArray.mk #[60, 112, 62, 97, 32, 60, 99, 111, 100, 101, 62] = ⟨[60, 112, 62, 97, 32, 60, 99, 111, 100, 101, 62].toArray⟩ from rfl, show ByteArray.mk #[60, 47, 99, 111, 100, 101, 62, 60, 47, 112, 62, 10] = ⟨[60, 47, 99, 111, 100, 101, 62, 60, 47, 112, 62, 10].toArray⟩ from rfl]
  simp only [cat_lists]
  simp [paraOut, spanOut, codeOutS]
set_option maxRecDepth 20000 in
set_option maxHeartbeats 1600000 in
theorem law_span (l : List UInt8) (z : Int) (w : World) (hl : l.length ≤ 9223372036854775807) :
    Calls Tryz.prog 6 #[.string ⟨l.toArray⟩, .int .i64 z] w fun e w' => e = .returned (.bool true) ∧ Below w.heap.size w w' := by
  have hsz : (ByteArray.mk l.toArray).size = l.length := sz_mk l
  by_cases hbig : l.length ≤ 2147483647
  · have HP := hid (printable_any l 200 w (by omega) hl)
    go_enter Tryz.func6, Tryz.ntmps6
    go_wp2_with fail
    refine HP.out.mono ?_
    rintro e w1 ⟨⟨q, rfl, hq⟩, rfl⟩
    cases q with
    | false =>
      go_wp2_with fail
      go_ret
      exact ⟨rfl, Below.refl _ _⟩
    | true =>
      obtain ⟨h200, hchr⟩ := hq rfl
      have HCHR := hid hchr
      clear hq hchr HP
      by_cases hz : 1 ≤ z ∧ z ≤ 20
      · obtain ⟨n, rfl⟩ := Int.eq_ofNat_of_zero_le (show 0 ≤ z by omega)
        have hn1 : 1 ≤ n := by omega
        have hn2 : n ≤ 20 := by omega
        have HR := hid (hasRun_any l n w (by omega) hn1 (by omega))
        have HS := hid (shorn_any l w (by omega))
        go_wp2_with fail
        refine HR.out.mono ?_
        rintro e w2 ⟨⟨q, rfl, hq⟩, rfl⟩
        cases q with
        | true =>
          go_wp2_with fail
          go_ret
          exact ⟨rfl, Below.refl _ _⟩
        | false =>
          have HNR := hid (hq rfl)
          clear hq HR
          go_wp2_with fail
          refine HS.out.mono ?_
          rintro e w3 ⟨⟨y, rfl, hy⟩, rfl⟩
          by_cases hy0 : y.data.toList = []
          · obtain rfl : y = ⟨#[]⟩ := by
              apply ByteArray.ext
              exact Array.toList_inj.1 hy0
            clear hy
            go_wp2_with fail
            go_ret
            exact ⟨rfl, Below.refl _ _⟩
          · obtain ⟨c, hc, hnb⟩ := hy hy0
            have HSL := hid (show SpanL l n from ⟨h200, HCHR.out, hn1, hn2, HNR.out, c, hc, by
              unfold blankI at hnb
              exact isST_not (by omega) (by omega)⟩)
            have hyn : y.toList.isEmpty = false := by
              rw [ByteArray.toList_eq]
              cases hh : y.data.toList with
              | nil => exact absurd hh hy0
              | cons a t => rfl
            have hel : (esc l).length ≤ 1200 := by have := esc_len l; omega
            have hc1 : ¬ 9223372036854775807 < 11 + (esc l).length := by omega
            have hc2 : ¬ 9223372036854775807 < 11 + (esc l).length + 12 := by omega
            clear hy hc hnb hel
            go_wp2_with fail
            refine (rep_any2 96 n w (by omega)).mono ?_
            rintro e w4 ⟨rfl, hb4⟩
            have hz1 := repF_size n 96
            have HB4 := hid hb4
            clear hb4
            go_wp2_with fail
            refine (HTML_span _ l n w4 (span_text l n) HSL.out).mono ?_
            rintro e w5 ⟨rfl, hb5⟩
            have HB5 := hid (HB4.out.trans (hb5.mono HB4.out.size))
            clear hb5
            rw [span_out l]
            go_wp2_with fail
            refine (escapeHTML_any ⟨l.toArray⟩ w5 (bsz (by omega))).mono ?_
            rintro e w6 ⟨rfl, rfl⟩
            go_wp2_with fail
            go_ret
            exact ⟨rfl, HB5.out⟩
      · go_wp2_with fail
        all_goals go_ret
        all_goals exact ⟨rfl, Below.refl _ _⟩
  · go_enter Tryz.func6, Tryz.ntmps6
    go_wp2_with fail
    go_ret
    exact ⟨rfl, Below.refl _ _⟩
end Go.Proofs.YtgdnbidjdiohkaaGreatDoor
