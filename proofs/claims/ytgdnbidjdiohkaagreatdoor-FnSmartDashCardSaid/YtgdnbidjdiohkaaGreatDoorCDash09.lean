/- PROVED: for all arguments, with smart dashes two hyphens between words are an en dash, three an em dash, one is a hyphen; without them all are hyphens (the law FnSmartDash returns true). -/
import Derived.Test.YtgdnbidjdiohkaaGreatDoorCDash08
import Derived.Test.YtgdnbidjdiohkaaGreatDoorCDash04
import Derived.Test.YtgdnbidjdiohkaaGreatDoorCDash02
import Derived.Test.YtgdnbidjdiohkaaGreatDoorCards
import Derived.Test.YtgdnbidjdiohkaaGreatDoorTie
import Derived.Stop.LaidErr
import Derived.ChangeMaps5
/- parseDash: two hyphens are an en dash, three an em dash, one is none. -/


namespace Go.Proofs.YtgdnbidjdiohkaaGreatDoor
open Go.RowKit
theorem parseDash_no (p : Value) (s : ByteArray) (i : Nat) (w : World) (_ : i < s.size) (_ : s.size ≤ 100000) (h : bt s (i + 1) ≠ 45) :
    Calls Tryz.prog 75 #[p, .string s, .int .i64 i] w fun e w' => e = .returned (.tuple #[.nilIface, .int .i64 0, .int .i64 0, .bool false]) ∧ w = w' := by
  have hb := get_bt s
  have b1 : (bt s (i + 1) == 45) = false := by simpa using h
  have b2 : (bt s (i + 1) != 45) = true := by simp [bne, b1]
  by_cases hlt : i + 1 < s.size
  · go_enter Tryz.func75, Tryz.ntmps75
    go_wp2_with fail
    refine bodyPost_ret (by simp [results, Tryz.results75, go_sem]; try rfl) rfl ?_
    exact ⟨rfl, rfl⟩
  · go_enter Tryz.func75, Tryz.ntmps75
    go_wp2_with fail
    refine bodyPost_ret (by simp [results, Tryz.results75, go_sem]; try rfl) rfl ?_
    exact ⟨rfl, rfl⟩
/-- A dash of n hyphens. -/
def dashS (n : Nat) : List UInt8 := if n = 2 then [226, 128, 147] else if n = 3 then [226, 128, 148] else [45]
theorem dash2 : (ByteArray.mk (Lib.repeatL [226, 128, 148] 0).toArray ++ ByteArray.mk (Lib.repeatL [226, 128, 147] 1).toArray) = ⟨(dashS 2).toArray⟩ := by
  apply ByteArray.ext
  simp [dashS, Lib.repeatL]
theorem dash3 : (ByteArray.mk (Lib.repeatL [226, 128, 148] 1).toArray ++ ByteArray.mk (Lib.repeatL [226, 128, 147] 0).toArray) = ⟨(dashS 3).toArray⟩ := by
  apply ByteArray.ext
  simp [dashS, Lib.repeatL]
set_option maxRecDepth 20000 in
set_option maxHeartbeats 1600000 in
theorem parseDash_yes (p : Value) (s : ByteArray) (i n : Nat) (w : World) (hs : s.size ≤ 100000) (hn : n = 2 ∨ n = 3) (hi : i + n ≤ s.size) (h : ∀ j, j < n → bt s (i + j) = 45) (hx : bt s (i + n) ≠ 45) :
    Calls Tryz.prog 75 #[p, .string s, .int .i64 i] w fun e w' => ∃ b, e = .returned (.tuple #[.iface 156 (.pointer (some ⟨b, 0, none⟩)), .int .i64 i, .int .i64 ((i + n : Nat) : Int), .bool true]) ∧ w.heap.size ≤ b ∧ Blk w' b 137 #[.string ⟨(dashS n).toArray⟩] ∧ Below w.heap.size w w' := by
  have hb := get_bt s
  have h1 : bt s (i + 1) = 45 := h 1 (by omega)
  have H := hid h
  have c1 : (bt s (i + 1) == 45) = true := by simpa using h1
  have c2 : (bt s (i + n) == 45) = false := by simpa using hx
  have c1' : (bt s (i + 1) != 45) = false := by simp [bne, c1]
  clear h h1
  go_enter Tryz.func75, Tryz.ntmps75
  go_wp2_with fail
  go_loopw [10] (fun t10 wr => ∃ m : Nat, t10 = .int .i64 m ∧ 2 ≤ m ∧ m ≤ n ∧ wr = w) (fun t10 _ => n + 1 - (intOf t10).toNat)
  case atStart => exact ⟨2, rfl, Nat.le_refl _, by omega, rfl⟩
  case round =>
    obtain ⟨m, rfl, hm2, hmn, rfl⟩ := hrel
    by_cases hlt : m < n
    · have c3 : (bt s (i + m) == 45) = true := by simpa using H.out m hlt
      go_wp2_with fail
      go_roundw
      case rel => exact ⟨m + 1, by go_num, by omega, hlt, trivial⟩
      case measure => simp [intOf]; omega
    · obtain rfl : m = n := by omega
      rcases hn with rfl | rfl
      · by_cases hlt2 : i + 2 < s.size
        · go_wp2_with fail
          refine (repeat_any ⟨#[226, 128, 148]⟩ 0 wr (by omega) (by decide)).mono ?_
          rintro e w1 ⟨rfl, hb1⟩
          go_wp2_with fail
          refine (repeat_any ⟨#[226, 128, 147]⟩ 1 w1 (by omega) (by decide)).mono ?_
          rintro e w2 ⟨rfl, hb2⟩
          go_wp2_with fail
          refine bodyPost_ret (by simp [results, Tryz.results75, go_sem]; try rfl) rfl ?_
          exact ⟨w2.heap.size, by rw [show ((i + 2 : Nat) : Int) = (i : Int) + 2 from by omega], Nat.le_trans hb1.size hb2.size, by rw [← dash2]; exact Blk.new _ _ _, (hb1.trans (hb2.mono hb1.size)).alloc (Nat.le_trans hb1.size hb2.size) _⟩
        · go_wp2_with fail
          refine (repeat_any ⟨#[226, 128, 148]⟩ 0 wr (by omega) (by decide)).mono ?_
          rintro e w1 ⟨rfl, hb1⟩
          go_wp2_with fail
          refine (repeat_any ⟨#[226, 128, 147]⟩ 1 w1 (by omega) (by decide)).mono ?_
          rintro e w2 ⟨rfl, hb2⟩
          go_wp2_with fail
          refine bodyPost_ret (by simp [results, Tryz.results75, go_sem]; try rfl) rfl ?_
          exact ⟨w2.heap.size, by rw [show ((i + 2 : Nat) : Int) = (i : Int) + 2 from by omega], Nat.le_trans hb1.size hb2.size, by rw [← dash2]; exact Blk.new _ _ _, (hb1.trans (hb2.mono hb1.size)).alloc (Nat.le_trans hb1.size hb2.size) _⟩
      · by_cases hlt2 : i + 3 < s.size
        · go_wp2_with fail
          refine (repeat_any ⟨#[226, 128, 148]⟩ 1 wr (by omega) (by decide)).mono ?_
          rintro e w1 ⟨rfl, hb1⟩
          go_wp2_with fail
          refine (repeat_any ⟨#[226, 128, 147]⟩ 0 w1 (by omega) (by decide)).mono ?_
          rintro e w2 ⟨rfl, hb2⟩
          go_wp2_with fail
          refine bodyPost_ret (by simp [results, Tryz.results75, go_sem]; try rfl) rfl ?_
          exact ⟨w2.heap.size, by rw [show ((i + 3 : Nat) : Int) = (i : Int) + 3 from by omega], Nat.le_trans hb1.size hb2.size, by rw [← dash3]; exact Blk.new _ _ _, (hb1.trans (hb2.mono hb1.size)).alloc (Nat.le_trans hb1.size hb2.size) _⟩
        · go_wp2_with fail
          refine (repeat_any ⟨#[226, 128, 148]⟩ 1 wr (by omega) (by decide)).mono ?_
          rintro e w1 ⟨rfl, hb1⟩
          go_wp2_with fail
          refine (repeat_any ⟨#[226, 128, 147]⟩ 0 w1 (by omega) (by decide)).mono ?_
          rintro e w2 ⟨rfl, hb2⟩
          go_wp2_with fail
          refine bodyPost_ret (by simp [results, Tryz.results75, go_sem]; try rfl) rfl ?_
          exact ⟨w2.heap.size, by rw [show ((i + 3 : Nat) : Int) = (i : Int) + 3 from by omega], Nat.le_trans hb1.size hb2.size, by rw [← dash3]; exact Blk.new _ _ _, (hb1.trans (hb2.mono hb1.size)).alloc (Nat.le_trans hb1.size hb2.size) _⟩
end Go.Proofs.YtgdnbidjdiohkaaGreatDoor
/- The text of the law FnSmartDash, and what it prints. -/


namespace Go.Proofs.YtgdnbidjdiohkaaGreatDoor
open Go.RowKit
structure WordL (l : List UInt8) : Prop where
  pos : 0 < l.length
  len : l.length ≤ 20
  chr : ∀ c ∈ l, c ∈ wcs
def gapL (sp : Bool) : List UInt8 := if sp then [32] else []
def dashPre (a : List UInt8) (sp : Bool) : List UInt8 := a ++ gapL sp
def dashSuf (b : List UInt8) (sp : Bool) : List UInt8 := gapL sp ++ b
def dashT (a b : List UInt8) (sp : Bool) (n : Nat) : List UInt8 := dashPre a sp ++ List.replicate n 45 ++ dashSuf b sp
def dashO (a b : List UInt8) (sp : Bool) (n : Nat) : List UInt8 := dashPre a sp ++ dashS n ++ dashSuf b sp
def dashesO : Opt := ⟨false, false, false, false, false, false, true, false, false, false⟩
theorem gapL_mem {sp : Bool} {c : UInt8} (h : c ∈ gapL sp) : c = 32 := by
  unfold gapL at h
  split at h
  · simpa using h
  · cases h
theorem gapL_len (sp : Bool) : (gapL sp).length ≤ 1 := by unfold gapL; split <;> simp
section
variable {a b : List UInt8} {sp : Bool} {n : Nat}
theorem pre_mem (ha : WordL a) {c : UInt8} (h : c ∈ dashPre a sp) : c ∈ wcs ∨ c = 32 := by
  rcases List.mem_append.1 h with h | h
  · exact .inl (ha.chr c h)
  · exact .inr (gapL_mem h)
theorem suf_mem (hb : WordL b) {c : UInt8} (h : c ∈ dashSuf b sp) : c ∈ wcs ∨ c = 32 := by
  rcases List.mem_append.1 h with h | h
  · exact .inr (gapL_mem h)
  · exact .inl (hb.chr c h)
theorem in_wcs2 {c : UInt8} (h : c ∈ wcs ∨ c = 32) : c ∈ wcs2 := by
  rcases h with h | rfl
  · exact List.mem_append_left _ h
  · decide
theorem no45 {c : UInt8} (h : c ∈ wcs ∨ c = 32) : c ≠ 45 := by
  rcases h with h | rfl
  · revert c; decide
  · decide
theorem dashT_mem (ha : WordL a) (hb : WordL b) {c : UInt8} (h : c ∈ dashT a b sp n) : c ∈ wcs2 := by
  rcases List.mem_append.1 h with h | h
  · rcases List.mem_append.1 h with h | h
    · exact in_wcs2 (pre_mem ha h)
    · rw [(List.mem_replicate.1 h).2]; decide
  · exact in_wcs2 (suf_mem hb h)
theorem pre_len (ha : WordL a) : 0 < (dashPre a sp).length ∧ (dashPre a sp).length ≤ 21 := by
  have := ha.pos; have := ha.len; have := gapL_len sp
  unfold dashPre
  rw [List.length_append]
  omega
theorem suf_len (hb : WordL b) : 0 < (dashSuf b sp).length ∧ (dashSuf b sp).length ≤ 21 := by
  have := hb.pos; have := hb.len; have := gapL_len sp
  unfold dashSuf
  rw [List.length_append]
  omega
theorem dashT_len (ha : WordL a) (hb : WordL b) (hn : n ≤ 3) : 0 < (dashT a b sp n).length ∧ (dashT a b sp n).length ≤ 45 := by
  have := pre_len (sp := sp) ha; have := suf_len (sp := sp) hb
  unfold dashT
  rw [List.length_append, List.length_append, List.length_replicate]
  omega
theorem word_cons (ha : WordL a) : ∃ c r, a = c :: r ∧ c ∈ wcs := by
  cases a with
  | nil => have := ha.pos; simp at this
  | cons c r => exact ⟨c, r, rfl, ha.chr c (List.mem_cons_self ..)⟩
theorem dashT_line (ha : WordL a) (hb : WordL b) (hn : n ≤ 3) : ParLine ⟨(dashT a b sp n).toArray⟩ := by
  obtain ⟨c, r, rfl, hc⟩ := word_cons ha
  have hl := (dashT_len (sp := sp) ha hb hn).2
  have hm : ∀ x ∈ dashT (c :: r) b sp n, x ∈ wcs2 := fun x hx => dashT_mem ha hb hx
  have e : dashT (c :: r) b sp n = c :: (r ++ gapL sp ++ List.replicate n 45 ++ dashSuf b sp) := by simp [dashT, dashPre]
  rw [e] at hm hl ⊢
  exact isWord_line c _ hc hm (by omega)
theorem wcs2_no {c : UInt8} (h : c ∈ wcs2) : c ≠ 10 ∧ c ≠ 13 ∧ c ≠ 0 ∧ c ≠ 34 ∧ c ≠ 38 ∧ c ≠ 60 ∧ c ≠ 62 ∧ c ≠ 91 ∧ c ≠ 96 := by
  revert c; decide
theorem wcs_no {c : UInt8} (h : c ∈ wcs) : c ≠ 32 ∧ c ≠ 9 := by
  revert c; decide
theorem dashT_trim (ha : WordL a) (hb : WordL b) : trimR (trimL (dashT a b sp n)) = dashT a b sp n := by
  refine trim_self _ (fun c hc => ?_) (fun c hc => ?_)
  · obtain ⟨x, r, rfl, hx⟩ := word_cons ha
    have e : dashT (x :: r) b sp n = x :: (r ++ gapL sp ++ List.replicate n 45 ++ dashSuf b sp) := by simp [dashT, dashPre]
    rw [e] at hc
    simp only [List.getElem?_cons_zero, Option.some.injEq] at hc
    subst hc
    exact wcs_no hx
  · have hne : b ≠ [] := by
      intro e
      have := hb.pos
      rw [e] at this
      simp at this
    have e : (dashT a b sp n).getLast? = b.getLast? := by
      unfold dashT dashSuf
      rw [← List.append_assoc, List.getLast?_append]
      cases hx : b.getLast? with
      | none => exact absurd (List.getLast?_eq_none_iff.1 hx) hne
      | some x => rfl
    rw [e] at hc
    exact wcs_no (hb.chr c (List.mem_of_getLast? hc))
theorem parF_plain {c : UInt8} (g : Nat) (h : c ∈ wcs2) : parF plainO g (c.toNat : Int) = none := by
  have key : ∀ c ∈ wcs2, parF plainO g (c.toNat : Int) = none := by
    intro c hc
    simp only [wcs2, wcs, List.cons_append, List.nil_append, List.mem_cons, List.not_mem_nil, or_false] at hc
    rcases hc with rfl | rfl | rfl | rfl | rfl | rfl | rfl | rfl <;> rfl
  exact key c h
theorem parF_dashes {c : UInt8} (g : Nat) (h : c ∈ wcs2) : parF dashesO g (c.toNat : Int) = if c = 45 then some (75, #[]) else none := by
  have key : ∀ c ∈ wcs2, parF dashesO g (c.toNat : Int) = if c = 45 then some (75, #[]) else none := by
    intro c hc
    simp only [wcs2, wcs, List.cons_append, List.nil_append, List.mem_cons, List.not_mem_nil, or_false] at hc
    rcases hc with rfl | rfl | rfl | rfl | rfl | rfl | rfl | rfl <;> rfl
  exact key c h
theorem dashT_esc (ha : WordL a) (hb : WordL b) : esc (dashT a b sp n) = dashT a b sp n :=
  esc_self _ (fun c hc => by
    have := wcs2_no (dashT_mem ha hb hc)
    exact ⟨this.2.2.2.1, this.2.2.2.2.1, this.2.2.2.2.2.1, this.2.2.2.2.2.2.1⟩)
theorem inlC_plain (ha : WordL a) (hb : WordL b) (hn : n ≤ 3) : InlC plainO (dashT a b sp n) (dashT a b sp n) := by
  have hl := dashT_len (sp := sp) ha hb hn
  have := inlC_quiet plainO (dashT a b sp n) rfl (by omega) hl.1 (dashT_trim ha hb) (fun g c hc => ⟨parF_plain g (dashT_mem ha hb hc), (wcs2_no (dashT_mem ha hb hc)).2.2.2.2.2.2.2.2⟩)
  rw [dashT_esc ha hb] at this
  exact this
/-- Where the hyphens stand. -/
theorem dash_at (p q : List UInt8) (hp : ∀ c ∈ p, c ≠ 45) (hq : ∀ c ∈ q, c ≠ 45) (i : Nat) : (p ++ List.replicate n 45 ++ q)[i]? = some 45 ↔ p.length ≤ i ∧ i < p.length + n := by
  rw [List.append_assoc]
  rcases Nat.lt_or_ge i p.length with h | h
  · rw [List.getElem?_append_left h]
    constructor
    · intro e; exact absurd rfl (hp _ (List.mem_of_getElem? e))
    · intro e; omega
  · rw [List.getElem?_append_right h]
    rcases Nat.lt_or_ge (i - p.length) n with h2 | h2
    · rw [List.getElem?_append_left (by simpa using h2), List.getElem?_replicate, if_pos h2]
      constructor
      · intro _; omega
      · intro _; rfl
    · rw [List.getElem?_append_right (by simpa using h2)]
      constructor
      · intro e; exact absurd rfl (hq _ (List.mem_of_getElem? e))
      · intro e; omega
theorem bt45 {t : List UInt8} {i : Nat} (hi : i < t.length) : bt ⟨t.toArray⟩ i = 45 ↔ t[i]? = some 45 := by
  obtain ⟨c, h1, _, h3⟩ := bt_get hi
  rw [h1, h3]
  constructor
  · intro e; rw [UInt8.toNat_inj.1 (show c.toNat = (45 : UInt8).toNat from by show c.toNat = 45; omega)]
  · intro e; cases e; rfl
theorem pieceK_take (p q : List UInt8) (h : 0 < p.length) : pieceK ⟨(p ++ q).toArray⟩ 0 p.length = [plainK p] := by
  unfold pieceK
  rw [if_pos h]
  simp
theorem pieceK_drop (p q : List UInt8) (h : 0 < q.length) : pieceK ⟨(p ++ q).toArray⟩ p.length (ByteArray.mk (p ++ q).toArray).size = [plainK q] := by
  unfold pieceK
  rw [sz_mk, if_pos (by rw [List.length_append]; omega)]
  simp [List.take_of_length_le]
theorem dashS_len (hn : 1 ≤ n ∧ n ≤ 3) : 0 < (dashS n).length ∧ (dashS n).length ≤ 3 := by
  have : n = 1 ∨ n = 2 ∨ n = 3 := by omega
  rcases this with rfl | rfl | rfl <;> decide
theorem dashS_esc (hn : 1 ≤ n ∧ n ≤ 3) : esc (dashS n) = dashS n := by
  have : n = 1 ∨ n = 2 ∨ n = 3 := by omega
  rcases this with rfl | rfl | rfl <;> decide
theorem inlC_dashes (ha : WordL a) (hb : WordL b) (hn : 1 ≤ n ∧ n ≤ 3) : InlC dashesO (dashT a b sp n) (dashO a b sp n) := by
  have hl := dashT_len (sp := sp) ha hb hn.2
  have hmem : ∀ c ∈ dashT a b sp n, c ∈ wcs2 := fun c hc => dashT_mem ha hb hc
  have hpl := pre_len (sp := sp) ha
  have hsl := suf_len (sp := sp) hb
  have hat : ∀ i, (dashT a b sp n)[i]? = some 45 ↔ (dashPre a sp).length ≤ i ∧ i < (dashPre a sp).length + n := dash_at _ _ (fun c hc => no45 (pre_mem ha hc)) (fun c hc => no45 (suf_mem hb hc))
  have hlen : (dashT a b sp n).length = (dashPre a sp).length + n + (dashSuf b sp).length := by
    unfold dashT
    rw [List.length_append, List.length_append, List.length_replicate]
  have hp0 : (dashPre a sp) = dashPre a sp := rfl
  have hparF : ∀ g i f rv, i < (dashT a b sp n).length → parF dashesO g (bt ⟨(dashT a b sp n).toArray⟩ i) = some (f, rv) → f = 75 ∧ rv = #[] ∧ (dashT a b sp n)[i]? = some 45 := by
    intro g i f rv hi hpf
    obtain ⟨c, h1, h2, h3⟩ := bt_get hi
    rw [h3, parF_dashes g (hmem c h2)] at hpf
    split at hpf
    · rename_i hc
      simp only [Option.some.injEq, Prod.mk.injEq] at hpf
      rw [hc] at h1
      exact ⟨hpf.1.symm, hpf.2.symm, h1⟩
    · cases hpf
  have hquiet : ∀ g i, i < (dashT a b sp n).length → parF dashesO g (bt ⟨(dashT a b sp n).toArray⟩ i) = none → ¬ (dashT a b sp n)[i]? = some 45 := by
    intro g i hi hpf e
    rw [bt_some e] at hpf
    cases hpf
  have htick : ∀ i, i < (dashT a b sp n).length → bt ⟨(dashT a b sp n).toArray⟩ i ≠ 96 := by
    intro i hi h96
    obtain ⟨c, _, h2, h3⟩ := bt_get hi
    rw [h3] at h96
    exact (wcs2_no (hmem c h2)).2.2.2.2.2.2.2.2 (UInt8.toNat_inj.1 (by show c.toNat = 96; omega))
  by_cases h1 : n = 1
  · subst h1
    have ho : dashO a b sp 1 = esc (dashT a b sp 1) := by rw [dashT_esc ha hb]; rfl
    rw [ho]
    refine inlC_of dashesO _ _ (fun _ em tk _ ks => em = 0 ∧ tk = false ∧ ks = []) (fun ks => ks = [plainK (dashT a b sp 1)]) rfl (by omega) (dashT_trim ha hb) (fun g r w hps hpar hne => ?_) (fun ks hF _ => ?_)
    · refine { start := ⟨rfl, rfl, rfl⟩, fin := ?_, quiet := ?_, tick := ?_, call := ?_ }
      · rintro em tk bk ks ⟨rfl, rfl, rfl⟩
        exact piece_all _ hl.1
      · intro i em tk bk ks h _ _ _
        exact h
      · intro i em tk bk ks _ _ hi h96 _
        rw [sz_mk] at hi
        exact absurd h96 (htick i hi)
      · rintro i em tk bk ks f rv ⟨rfl, rfl, rfl⟩ _ hi hpf c W hin hm
        have hsz : (ByteArray.mk (dashT a b sp 1).toArray).size ≤ 100000 := by rw [sz_mk]; omega
        have hi2 := hi
        rw [sz_mk] at hi2
        obtain ⟨rfl, rfl, h45⟩ := hparF g i f rv hi2 hpf
        have hx := (hat i).1 h45
        have hnx : bt ⟨(dashT a b sp 1).toArray⟩ (i + 1) ≠ 45 := fun e => by
          have := (hat (i + 1)).1 ((bt45 (by omega)).1 e)
          omega
        refine (parseDash_no (.pointer (some ⟨g, 0, none⟩)) _ i W hi hsz hnx).mono ?_
        rintro e w' ⟨rfl, rfl⟩
        exact ⟨c, _, hin, Mod.refl _ _, .inl ⟨_, _, _, rfl, rfl, by simp [tkAt, htick i hi2], rfl⟩⟩
    · subst hF
      refine ⟨by simp, by simp [plainOf_plain]; omega, outP, outP_plain, fun k hk hnk => ?_, by simp [outP_plain]⟩
      simp only [List.mem_cons, List.not_mem_nil, or_false] at hk
      exact absurd hk (hnk _)
  · have hn2 : n = 2 ∨ n = 3 := by omega
    have hpiece : pieceK ⟨(dashT a b sp n).toArray⟩ 0 (dashPre a sp).length = [plainK (dashPre a sp)] := by
      unfold dashT
      rw [List.append_assoc]
      exact pieceK_take _ _ hpl.1
    have hpiece2 : pieceK ⟨(dashT a b sp n).toArray⟩ ((dashPre a sp).length + n) (ByteArray.mk (dashT a b sp n).toArray).size = [plainK (dashSuf b sp)] := by
      have := pieceK_drop (dashPre a sp ++ List.replicate n 45) (dashSuf b sp) hsl.1
      rw [List.length_append, List.length_replicate] at this
      exact this
    have hdl := dashS_len hn
    refine inlC_of dashesO _ _ (fun i em tk _ ks => tk = false ∧ ((em = 0 ∧ ks = [] ∧ i ≤ (dashPre a sp).length) ∨ (em = (dashPre a sp).length + n ∧ ks = [plainK (dashPre a sp), plainK (dashS n)] ∧ em ≤ i))) (fun ks => ks = [plainK (dashPre a sp), plainK (dashS n), plainK (dashSuf b sp)]) rfl (by omega) (dashT_trim ha hb) (fun g r w hps hpar hne => ?_) (fun ks hF _ => ?_)
    · refine { start := ⟨rfl, .inl ⟨rfl, rfl, Nat.zero_le _⟩⟩, fin := ?_, quiet := ?_, tick := ?_, call := ?_ }
      · rintro em tk bk ks ⟨_, ⟨rfl, rfl, h⟩ | ⟨rfl, rfl, h⟩⟩
        · rw [sz_mk] at h; omega
        · rw [hpiece2]; rfl
      · rintro i em tk bk ks ⟨h0, h⟩ _ hi hpf
        rw [sz_mk] at hi
        have hno := hquiet g i hi hpf
        rw [hat i] at hno
        refine ⟨h0, ?_⟩
        rcases h with ⟨rfl, rfl, h⟩ | ⟨rfl, rfl, h⟩
        · exact .inl ⟨rfl, rfl, by omega⟩
        · exact .inr ⟨rfl, rfl, by omega⟩
      · intro i em tk bk ks _ _ hi h96 _
        rw [sz_mk] at hi
        exact absurd h96 (htick i hi)
      · rintro i em tk bk ks f rv ⟨rfl, h⟩ hei hi hpf c W hin hm
        have hsz : (ByteArray.mk (dashT a b sp n).toArray).size ≤ 100000 := by rw [sz_mk]; omega
        have hi2 := hi
        rw [sz_mk] at hi2
        obtain ⟨rfl, rfl, h45⟩ := hparF g i f rv hi2 hpf
        have hx := (hat i).1 h45
        rcases h with ⟨rfl, rfl, h⟩ | ⟨rfl, rfl, h⟩
        · obtain rfl : i = (dashPre a sp).length := by omega
          refine (parseDash_yes (.pointer (some ⟨g, 0, none⟩)) ⟨(dashT a b sp n).toArray⟩ (dashPre a sp).length n W hsz hn2 (by rw [sz_mk]; omega) (fun j hj => (bt45 (by omega)).2 ((hat _).2 ⟨by omega, by omega⟩)) (fun e => ?_)).mono ?_
          · have := (hat ((dashPre a sp).length + n)).1 ((bt45 (by omega)).1 e)
            omega
          · rintro e w' ⟨q, rfl, hq, hblk, hbel⟩
            have hm1 : Mod (fun k => k = g ∨ w.heap.size ≤ k) W w' := Mod.below hbel (fun k h1 h2 => by omega)
            obtain ⟨l, vs, hps1, hrow1, hln1, hit1⟩ := hin
            refine ⟨c, _, ⟨l, vs, hps1.below hbel, own_mod hrow1 (Mod.below' (S := fun _ => False) hbel) (fun _ _ x => x), hln1, hit1.mod (S := fun _ => False) (Mod.below' hbel) (fun _ _ _ _ _ _ x => x)⟩, hm1, .inr ⟨_, plainK (dashS n), (dashPre a sp).length, (dashPre a sp).length + n, rfl, ⟨q, rfl, hblk, Nat.le_trans hm.size hq⟩, plainK_sure _, Nat.zero_le _, by rw [sz_mk]; omega, by omega, by omega, by rw [sz_mk]; omega, by simp [tkAt, htick _ hi2], .inr ⟨rfl, ?_, Nat.le_refl _⟩⟩⟩
            rw [hpiece]
            rfl
        · omega
    · subst hF
      refine ⟨by simp, by simp [plainOf_plain]; omega, outP, outP_plain, fun k hk hnk => ?_, ?_⟩
      · simp only [List.mem_cons, List.not_mem_nil, or_false] at hk
        rcases hk with hk | hk | hk
        · exact absurd hk (hnk _)
        · exact absurd hk (hnk _)
        · exact absurd hk (hnk _)
      · simp only [List.flatMap_cons, List.flatMap_nil, outP_plain, List.append_nil]
        rw [dashS_esc hn, esc_self (dashPre a sp) (fun c hc => ?_), esc_self (dashSuf b sp) (fun c hc => ?_)]
        · unfold dashO; rw [List.append_assoc]
        · have := wcs2_no (in_wcs2 (suf_mem hb hc))
          exact ⟨this.2.2.2.1, this.2.2.2.2.1, this.2.2.2.2.2.1, this.2.2.2.2.2.2.1⟩
        · have := wcs2_no (in_wcs2 (pre_mem ha hc))
          exact ⟨this.2.2.2.1, this.2.2.2.2.1, this.2.2.2.2.2.1, this.2.2.2.2.2.2.1⟩
end
end Go.Proofs.YtgdnbidjdiohkaaGreatDoor
/- The walk of the law FnSmartDash: for all words it returns true. -/


namespace Go.Proofs.YtgdnbidjdiohkaaGreatDoor
open Go.RowKit
theorem word_any (l : List UInt8) (w : World) (hl : l.length ≤ 9223372036854775807) : Calls Tryz.prog 25 #[.string ⟨l.toArray⟩] w (BoolF (WordL l) w) := by
  have HO := hid (only_any l wcs 20 w (by omega) hl)
  cases l with
  | nil =>
    go_enter Tryz.func25, Tryz.ntmps25
    go_wp2_with fail
    go_ret
    exact BoolF.no w
  | cons c r =>
    go_enter Tryz.func25, Tryz.ntmps25
    go_wp2_with fail
    refine HO.out.mono ?_
    rintro e w' ⟨⟨b, rfl, hb⟩, rfl⟩
    cases b with
    | false =>
      go_wp2_with fail
      go_ret
      exact BoolF.no w
    | true =>
      obtain ⟨h1, h2⟩ := hb rfl
      go_wp2_with fail
      go_ret
      exact BoolF.yes w ⟨by simp, h1, h2⟩
theorem rep_any (c : UInt8) (n : Nat) (w : World) (hn : n ≤ 100000) : Calls Tryz.prog 24 #[.string ⟨#[c]⟩, .int .i64 n] w fun e w' => e = .returned (.string (repF n c)) ∧ Below w.heap.size w w' := by
  refine (repeat_any ⟨#[c]⟩ n w (by omega) (by show 1 ≤ 1000000; omega)).mono ?_
  rintro e w' ⟨rfl, hb⟩
  refine ⟨?_, hb⟩
  rw [show (ByteArray.mk #[c]).data.toList = [c] from rfl, repeatL_one1]
  rfl
theorem HTML_dash1 (s : ByteArray) (a b : List UInt8) (sp : Bool) (n : Nat) (w : World) (hs : s = ⟨(dashT a b sp n).toArray⟩) (ha : WordL a) (hb : WordL b) (hn : 1 ≤ n ∧ n ≤ 3) :
    Calls Tryz.prog 12 #[.agg #[.bool false, .bool false, .bool false, .bool false, .bool false, .bool false, .bool true, .bool false, .bool false, .bool false], .string s] w fun e w' => e = .returned (.string ⟨(paraOut (dashO a b sp n)).toArray⟩) ∧ Below w.heap.size w w' := by
  subst hs
  have hno : ∀ x ∈ dashT a b sp n, x ≠ 10 ∧ x ≠ 13 ∧ x ≠ 0 := fun x hx => by
    have := wcs2_no (dashT_mem ha hb hx)
    exact ⟨this.1, this.2.1, this.2.2.1⟩
  refine HTML_par dashesO (dashT a b sp n) _ w (dashT_line ha hb hn.2) ⟨fun h => (hno _ h).1 rfl, fun h => (hno _ h).2.1 rfl, fun h => (hno _ h).2.2 rfl⟩ ?_ (inlC_dashes ha hb hn) rfl ?_
  · refine bt_mem _ 0 (fun z => z ≠ 91) (by decide) (fun c hc => ?_)
    have h := dashT_mem ha hb hc
    revert h
    exact (by decide : ∀ c ∈ wcs2, (c.toNat : Int) ≠ 91) c
  · have h1 := pre_len (sp := sp) ha
    have h2 := suf_len (sp := sp) hb
    have h3 := dashS_len hn
    unfold dashO
    rw [List.length_append, List.length_append]
    omega
theorem HTML_dash2 (s : ByteArray) (a b : List UInt8) (sp : Bool) (n : Nat) (w : World) (hs : s = ⟨(dashT a b sp n).toArray⟩) (ha : WordL a) (hb : WordL b) (hn : 1 ≤ n ∧ n ≤ 3) :
    Calls Tryz.prog 12 #[.agg #[.bool false, .bool false, .bool false, .bool false, .bool false, .bool false, .bool false, .bool false, .bool false, .bool false], .string s] w fun e w' => e = .returned (.string ⟨(paraOut (dashT a b sp n)).toArray⟩) ∧ Below w.heap.size w w' := by
  subst hs
  have hno : ∀ x ∈ dashT a b sp n, x ≠ 10 ∧ x ≠ 13 ∧ x ≠ 0 := fun x hx => by
    have := wcs2_no (dashT_mem ha hb hx)
    exact ⟨this.1, this.2.1, this.2.2.1⟩
  refine HTML_par plainO (dashT a b sp n) _ w (dashT_line ha hb hn.2) ⟨fun h => (hno _ h).1 rfl, fun h => (hno _ h).2.1 rfl, fun h => (hno _ h).2.2 rfl⟩ ?_ (inlC_plain ha hb hn.2) rfl ?_
  · refine bt_mem _ 0 (fun z => z ≠ 91) (by decide) (fun c hc => ?_)
    have h := dashT_mem ha hb hc
    revert h
    exact (by decide : ∀ c ∈ wcs2, (c.toNat : Int) ≠ 91) c
  · have h1 := dashT_len (sp := sp) ha hb hn.2
    omega
def gapB (sp : Bool) : ByteArray := if sp then ⟨#[32]⟩ else ⟨#[]⟩
theorem dash_text (a b : List UInt8) (sp : Bool) (n : Nat) : (((ByteArray.mk a.toArray ++ gapB sp) ++ repF n 45) ++ gapB sp) ++ ByteArray.mk b.toArray = ⟨(dashT a b sp n).toArray⟩ := by
  have hg : gapB sp = ⟨(gapL sp).toArray⟩ := by unfold gapB gapL; split <;> rfl
  rw [hg]
  unfold repF dashT dashPre dashSuf
  simp only [cat_lists]
  simp
theorem dash_out (a b : List UInt8) (sp : Bool) (n : Nat) : (ByteArray.mk (paraOut (dashO a b sp n)).toArray) = (((((ByteArray.mk #[60, 112, 62] ++ ByteArray.mk a.toArray) ++ gapB sp) ++ ByteArray.mk (dashS n).toArray) ++ gapB sp) ++ ByteArray.mk b.toArray) ++ ByteArray.mk #[60, 47, 112, 62, 10] := by
  have hg : gapB sp = ⟨(gapL sp).toArray⟩ := by unfold gapB gapL; split <;> rfl
  rw [hg, show ByteArray.mk #[60, 112, 62] = ⟨[60, 112, 62].toArray⟩ from rfl, show ByteArray.mk #[60, 47, 112, 62, 10] = ⟨[60, 47, 112, 62, 10].toArray⟩ from rfl]
  simp only [cat_lists]
  simp [paraOut, dashO, dashPre, dashSuf]
theorem dash_out2 (a b : List UInt8) (sp : Bool) (n : Nat) : (ByteArray.mk (paraOut (dashT a b sp n)).toArray) = (ByteArray.mk #[60, 112, 62] ++ ((((ByteArray.mk a.toArray ++ gapB sp) ++ repF n 45) ++ gapB sp) ++ ByteArray.mk b.toArray)) ++ ByteArray.mk #[60, 47, 112, 62, 10] := by
  rw [dash_text, show ByteArray.mk #[60, 112, 62] = ⟨[60, 112, 62].toArray⟩ from rfl, show ByteArray.mk #[60, 47, 112, 62, 10] = ⟨[60, 47, 112, 62, 10].toArray⟩ from rfl]
  simp only [cat_lists]
  simp [paraOut]
theorem paraOut_ne (out : List UInt8) : (paraOut out).isEmpty = false := rfl
set_option maxRecDepth 20000 in
set_option maxHeartbeats 1600000 in
theorem law_dash (a b : List UInt8) (z : Int) (sp : Bool) (w : World) (hla : a.length ≤ 9223372036854775807) (hlb : b.length ≤ 9223372036854775807) :
    Calls Tryz.prog 7 #[.string ⟨a.toArray⟩, .string ⟨b.toArray⟩, .int .i64 z, .bool sp] w fun e w' => e = .returned (.bool true) ∧ Below w.heap.size w w' := by
  by_cases hba : a.length ≤ 2147483647
  · by_cases hbb : b.length ≤ 2147483647
    · have HWA := hid (word_any a w hla)
      have HWB := hid (word_any b w hlb)
      go_enter Tryz.func7, Tryz.ntmps7
      go_wp2_with fail
      refine HWA.out.mono ?_
      rintro e w1 ⟨⟨q, rfl, hwa⟩, rfl⟩
      cases q with
      | false =>
        go_wp2_with fail
        go_ret
        exact ⟨rfl, Below.refl _ _⟩
      | true =>
        have HA := hid (hwa rfl)
        clear hwa HWA
        go_wp2_with fail
        refine HWB.out.mono ?_
        rintro e w2 ⟨⟨q, rfl, hwb⟩, rfl⟩
        cases q with
        | false =>
          go_wp2_with fail
          go_ret
          exact ⟨rfl, Below.refl _ _⟩
        | true =>
          have HB := hid (hwb rfl)
          clear hwb HWB
          by_cases hz : 1 ≤ z ∧ z ≤ 3
          · have hn : z = 1 ∨ z = 2 ∨ z = 3 := by omega
            have hal := HA.out.len
            have hbl := HB.out.len
            rcases hn with rfl | rfl | rfl
            · cases sp with
              | true =>
                go_wp2_with fail
                refine (rep_any 45 1 _ (by omega)).mono ?_
                rintro e w1 ⟨rfl, hb1⟩
                have hz1 := repF_size 1 45
                have HB1 := hid (((Below.refl _ w).alloc (Nat.le_refl _) _).trans (hb1.mono (by simp)))
                clear hb1
                go_wp2_with fail
                refine (HTML_dash1 _ a b true 1 w1 (dash_text a b true 1) HA.out HB.out (by omega)).mono ?_
                rintro e w2 ⟨rfl, hb2⟩
                have HB2 := hid (HB1.out.trans (hb2.mono HB1.out.size))
                clear hb2
                have hout : (ByteArray.mk (paraOut (dashO a b true 1)).toArray) = (((((ByteArray.mk #[60, 112, 62] ++ ByteArray.mk a.toArray) ++ ByteArray.mk #[32]) ++ ByteArray.mk #[45]) ++ ByteArray.mk #[32]) ++ ByteArray.mk b.toArray) ++ ByteArray.mk #[60, 47, 112, 62, 10] := dash_out a b true 1
                rw [hout]
                clear hout
                go_wp2_with fail
                refine (HTML_dash2 _ a b true 1 w2 (dash_text a b true 1) HA.out HB.out (by omega)).mono ?_
                rintro e w3 ⟨rfl, hb3⟩
                have HB3 := hid (HB2.out.trans (hb3.mono HB2.out.size))
                clear hb3
                have hout : (ByteArray.mk (paraOut (dashT a b true 1)).toArray) = (ByteArray.mk #[60, 112, 62] ++ ((((ByteArray.mk a.toArray ++ ByteArray.mk #[32]) ++ repF 1 45) ++ ByteArray.mk #[32]) ++ ByteArray.mk b.toArray)) ++ ByteArray.mk #[60, 47, 112, 62, 10] := dash_out2 a b true 1
                rw [hout]
                clear hout
                go_wp2_with fail
                go_ret
                exact ⟨rfl, HB3.out⟩
              | false =>
                go_wp2_with fail
                refine (rep_any 45 1 _ (by omega)).mono ?_
                rintro e w1 ⟨rfl, hb1⟩
                have hz1 := repF_size 1 45
                have HB1 := hid (((Below.refl _ w).alloc (Nat.le_refl _) _).trans (hb1.mono (by simp)))
                clear hb1
                go_wp2_with fail
                refine (HTML_dash1 _ a b false 1 w1 (dash_text a b false 1) HA.out HB.out (by omega)).mono ?_
                rintro e w2 ⟨rfl, hb2⟩
                have HB2 := hid (HB1.out.trans (hb2.mono HB1.out.size))
                clear hb2
                have hout : (ByteArray.mk (paraOut (dashO a b false 1)).toArray) = (((((ByteArray.mk #[60, 112, 62] ++ ByteArray.mk a.toArray) ++ ByteArray.mk #[]) ++ ByteArray.mk #[45]) ++ ByteArray.mk #[]) ++ ByteArray.mk b.toArray) ++ ByteArray.mk #[60, 47, 112, 62, 10] := dash_out a b false 1
                rw [hout]
                clear hout
                go_wp2_with fail
                refine (HTML_dash2 _ a b false 1 w2 (dash_text a b false 1) HA.out HB.out (by omega)).mono ?_
                rintro e w3 ⟨rfl, hb3⟩
                have HB3 := hid (HB2.out.trans (hb3.mono HB2.out.size))
                clear hb3
                have hout : (ByteArray.mk (paraOut (dashT a b false 1)).toArray) = (ByteArray.mk #[60, 112, 62] ++ ((((ByteArray.mk a.toArray ++ ByteArray.mk #[]) ++ repF 1 45) ++ ByteArray.mk #[]) ++ ByteArray.mk b.toArray)) ++ ByteArray.mk #[60, 47, 112, 62, 10] := dash_out2 a b false 1
                rw [hout]
                clear hout
                go_wp2_with fail
                go_ret
                exact ⟨rfl, HB3.out⟩
            · cases sp with
              | true =>
                go_wp2_with fail
                refine (rep_any 45 2 _ (by omega)).mono ?_
                rintro e w1 ⟨rfl, hb1⟩
                have hz1 := repF_size 2 45
                have HB1 := hid (((Below.refl _ w).alloc (Nat.le_refl _) _).trans (hb1.mono (by simp)))
                clear hb1
                go_wp2_with fail
                refine (HTML_dash1 _ a b true 2 w1 (dash_text a b true 2) HA.out HB.out (by omega)).mono ?_
                rintro e w2 ⟨rfl, hb2⟩
                have HB2 := hid (HB1.out.trans (hb2.mono HB1.out.size))
                clear hb2
                have hout : (ByteArray.mk (paraOut (dashO a b true 2)).toArray) = (((((ByteArray.mk #[60, 112, 62] ++ ByteArray.mk a.toArray) ++ ByteArray.mk #[32]) ++ ByteArray.mk #[226, 128, 147]) ++ ByteArray.mk #[32]) ++ ByteArray.mk b.toArray) ++ ByteArray.mk #[60, 47, 112, 62, 10] := dash_out a b true 2
                rw [hout]
                clear hout
                go_wp2_with fail
                refine (HTML_dash2 _ a b true 2 w2 (dash_text a b true 2) HA.out HB.out (by omega)).mono ?_
                rintro e w3 ⟨rfl, hb3⟩
                have HB3 := hid (HB2.out.trans (hb3.mono HB2.out.size))
                clear hb3
                have hout : (ByteArray.mk (paraOut (dashT a b true 2)).toArray) = (ByteArray.mk #[60, 112, 62] ++ ((((ByteArray.mk a.toArray ++ ByteArray.mk #[32]) ++ repF 2 45) ++ ByteArray.mk #[32]) ++ ByteArray.mk b.toArray)) ++ ByteArray.mk #[60, 47, 112, 62, 10] := dash_out2 a b true 2
                rw [hout]
                clear hout
                go_wp2_with fail
                go_ret
                exact ⟨rfl, HB3.out⟩
              | false =>
                go_wp2_with fail
                refine (rep_any 45 2 _ (by omega)).mono ?_
                rintro e w1 ⟨rfl, hb1⟩
                have hz1 := repF_size 2 45
                have HB1 := hid (((Below.refl _ w).alloc (Nat.le_refl _) _).trans (hb1.mono (by simp)))
                clear hb1
                go_wp2_with fail
                refine (HTML_dash1 _ a b false 2 w1 (dash_text a b false 2) HA.out HB.out (by omega)).mono ?_
                rintro e w2 ⟨rfl, hb2⟩
                have HB2 := hid (HB1.out.trans (hb2.mono HB1.out.size))
                clear hb2
                have hout : (ByteArray.mk (paraOut (dashO a b false 2)).toArray) = (((((ByteArray.mk #[60, 112, 62] ++ ByteArray.mk a.toArray) ++ ByteArray.mk #[]) ++ ByteArray.mk #[226, 128, 147]) ++ ByteArray.mk #[]) ++ ByteArray.mk b.toArray) ++ ByteArray.mk #[60, 47, 112, 62, 10] := dash_out a b false 2
                rw [hout]
                clear hout
                go_wp2_with fail
                refine (HTML_dash2 _ a b false 2 w2 (dash_text a b false 2) HA.out HB.out (by omega)).mono ?_
                rintro e w3 ⟨rfl, hb3⟩
                have HB3 := hid (HB2.out.trans (hb3.mono HB2.out.size))
                clear hb3
                have hout : (ByteArray.mk (paraOut (dashT a b false 2)).toArray) = (ByteArray.mk #[60, 112, 62] ++ ((((ByteArray.mk a.toArray ++ ByteArray.mk #[]) ++ repF 2 45) ++ ByteArray.mk #[]) ++ ByteArray.mk b.toArray)) ++ ByteArray.mk #[60, 47, 112, 62, 10] := dash_out2 a b false 2
                rw [hout]
                clear hout
                go_wp2_with fail
                go_ret
                exact ⟨rfl, HB3.out⟩
            · cases sp with
              | true =>
                go_wp2_with fail
                refine (rep_any 45 3 _ (by omega)).mono ?_
                rintro e w1 ⟨rfl, hb1⟩
                have hz1 := repF_size 3 45
                have HB1 := hid (((Below.refl _ w).alloc (Nat.le_refl _) _).trans (hb1.mono (by simp)))
                clear hb1
                go_wp2_with fail
                refine (HTML_dash1 _ a b true 3 w1 (dash_text a b true 3) HA.out HB.out (by omega)).mono ?_
                rintro e w2 ⟨rfl, hb2⟩
                have HB2 := hid (HB1.out.trans (hb2.mono HB1.out.size))
                clear hb2
                have hout : (ByteArray.mk (paraOut (dashO a b true 3)).toArray) = (((((ByteArray.mk #[60, 112, 62] ++ ByteArray.mk a.toArray) ++ ByteArray.mk #[32]) ++ ByteArray.mk #[226, 128, 148]) ++ ByteArray.mk #[32]) ++ ByteArray.mk b.toArray) ++ ByteArray.mk #[60, 47, 112, 62, 10] := dash_out a b true 3
                rw [hout]
                clear hout
                go_wp2_with fail
                refine (HTML_dash2 _ a b true 3 w2 (dash_text a b true 3) HA.out HB.out (by omega)).mono ?_
                rintro e w3 ⟨rfl, hb3⟩
                have HB3 := hid (HB2.out.trans (hb3.mono HB2.out.size))
                clear hb3
                have hout : (ByteArray.mk (paraOut (dashT a b true 3)).toArray) = (ByteArray.mk #[60, 112, 62] ++ ((((ByteArray.mk a.toArray ++ ByteArray.mk #[32]) ++ repF 3 45) ++ ByteArray.mk #[32]) ++ ByteArray.mk b.toArray)) ++ ByteArray.mk #[60, 47, 112, 62, 10] := dash_out2 a b true 3
                rw [hout]
                clear hout
                go_wp2_with fail
                go_ret
                exact ⟨rfl, HB3.out⟩
              | false =>
                go_wp2_with fail
                refine (rep_any 45 3 _ (by omega)).mono ?_
                rintro e w1 ⟨rfl, hb1⟩
                have hz1 := repF_size 3 45
                have HB1 := hid (((Below.refl _ w).alloc (Nat.le_refl _) _).trans (hb1.mono (by simp)))
                clear hb1
                go_wp2_with fail
                refine (HTML_dash1 _ a b false 3 w1 (dash_text a b false 3) HA.out HB.out (by omega)).mono ?_
                rintro e w2 ⟨rfl, hb2⟩
                have HB2 := hid (HB1.out.trans (hb2.mono HB1.out.size))
                clear hb2
                have hout : (ByteArray.mk (paraOut (dashO a b false 3)).toArray) = (((((ByteArray.mk #[60, 112, 62] ++ ByteArray.mk a.toArray) ++ ByteArray.mk #[]) ++ ByteArray.mk #[226, 128, 148]) ++ ByteArray.mk #[]) ++ ByteArray.mk b.toArray) ++ ByteArray.mk #[60, 47, 112, 62, 10] := dash_out a b false 3
                rw [hout]
                clear hout
                go_wp2_with fail
                refine (HTML_dash2 _ a b false 3 w2 (dash_text a b false 3) HA.out HB.out (by omega)).mono ?_
                rintro e w3 ⟨rfl, hb3⟩
                have HB3 := hid (HB2.out.trans (hb3.mono HB2.out.size))
                clear hb3
                have hout : (ByteArray.mk (paraOut (dashT a b false 3)).toArray) = (ByteArray.mk #[60, 112, 62] ++ ((((ByteArray.mk a.toArray ++ ByteArray.mk #[]) ++ repF 3 45) ++ ByteArray.mk #[]) ++ ByteArray.mk b.toArray)) ++ ByteArray.mk #[60, 47, 112, 62, 10] := dash_out2 a b false 3
                rw [hout]
                clear hout
                go_wp2_with fail
                go_ret
                exact ⟨rfl, HB3.out⟩
          · go_wp2_with fail
            all_goals go_ret
            all_goals exact ⟨rfl, Below.refl _ _⟩
    · go_enter Tryz.func7, Tryz.ntmps7
      go_wp2_with fail
      go_ret
      exact ⟨rfl, Below.refl _ _⟩
  · go_enter Tryz.func7, Tryz.ntmps7
    go_wp2_with fail
    go_ret
    exact ⟨rfl, Below.refl _ _⟩
end Go.Proofs.YtgdnbidjdiohkaaGreatDoor
/- Arguments of a law that are bytes. -/

namespace Go.Proofs.YtgdnbidjdiohkaaGreatDoor
open Go.RowKit Go.ChangeShapes Go.WideShapes Go.ChangeAt
/-- A byte, as a number below 256. -/
theorem open_byte {H : Type} {enc : TypeId × Value → H} {P : Program} {t : TypeId} (ht : P.underlying t = some (.int .u8)) {W : World} {base : Nat} {v : Value} {d : DataW H} {ps : List MemPlace}
    (hval : Value.okWide P W .any base t v) (h : DataW.Trod enc P W 0 (fun _ => true) true t v d ps) : ∃ n : Nat, v = .int .u8 n ∧ n < 256 := by
  obtain ⟨z, rfl, _, _, hw⟩ := open_int ht hval h
  have h3 : 0 ≤ z ∧ z ≤ 255 := by simpa [Lit.wf, IntKind.min, IntKind.max, IntKind.bits, IntKind.signed] using hw
  obtain ⟨n, rfl⟩ := Int.eq_ofNat_of_zero_le h3.1
  exact ⟨n, rfl, by omega⟩
end Go.Proofs.YtgdnbidjdiohkaaGreatDoor
/- The witness's world, for every law: the settled world, the eight listed variables holding what their initialisers lay. -/




namespace Go.Proofs.YtgdnbidjdiohkaaGreatDoor
open Go.RowKit Go.ChangeShapes Go.WideShapes Go.ChangeAt Go.Lib
/-- The cells of a datum of plain parts. -/
def flat1 : DataW Unit → List Value
  | .lit (.int k n) => [.int k n]
  | .lit (.string s) => [.string ⟨s.toArray⟩]
  | _ => []
def flat2 : DataW Unit → List Value
  | .agg ds => ds.flatMap flat1
  | d => flat1 d
def flat3 : DataW Unit → List Value
  | .agg ds => ds.flatMap flat2
  | d => flat2 d
noncomputable def laidWorld (os : Os) : World :=
  let N := (World.settled Tryz.prog os).heap.size
  let w0 := World.holding Tryz.prog os ⟨#[
    .cells #[.string ⟨#[105, 110, 118, 97, 108, 105, 100, 32, 115, 121, 110, 116, 97, 120]⟩] 310,
    .cells #[.string ⟨#[118, 97, 108, 117, 101, 32, 111, 117, 116, 32, 111, 102, 32, 114, 97, 110, 103, 101]⟩] 310], #[], []⟩
  let put (h : Array Obj) (g : Nat) (cs : Array Value) : Array Obj := h.modify g fun
    | .cells _ t frozen => .cells cs t frozen
    | o => o
  let h1 := put w0.heap 1 (flat3 Rows.laid_pub_paratext_pub_rscmarkdown_htmlEntities).toArray
  let h2 := put h1 2 (flat3 Rows.laid_unicode_utf8_first).toArray
  let h3 := put h2 3 (flat3 Rows.laid_unicode_utf8_acceptRanges).toArray
  let h4 := put h3 4 #[.iface 308 (.pointer (some ⟨N, 0, none⟩))]
  let h5 := put h4 5 #[.iface 308 (.pointer (some ⟨N + 1, 0, none⟩))]
  let h6 := put h5 6 (flat3 Rows.laid_internal_strconv_uint64pow10).toArray
  let h7 := put h6 7 (flat3 Rows.laid_math_bits_deBruijn32tab).toArray
  let h8 := put h7 8 (flat3 Rows.laid_math_bits_deBruijn64tab).toArray
  { w0 with heap := h8 }
noncomputable abbrev N0 : Nat := (World.settled Tryz.prog default).heap.size
set_option maxRecDepth 1000000 in
theorem laid_met (os : Os) (args : Array Value) : laidMet Tryz.prog Rows.fnKeptRow.laid ((laidWorld os).forCall (fun _ _ => 0) ⟨#[], args, []⟩).memory :=
  (LaidIn.of_run [1, 2, 3, 4, 5, 6, 7, 8, N0, N0 + 1] 8 (by kernel_rfl) (by kernel_rfl) (by kernel_rfl) (by kernel_rfl)).met
end Go.Proofs.YtgdnbidjdiohkaaGreatDoor
/- The closed facts that the row of FnSmartDash asks of the program. -/


namespace Go.Proofs.YtgdnbidjdiohkaaGreatDoor.fnSmartDash
open Go.ChangeShapes Go.WideShapes Go.ChangeAt Go.RowKit
set_option maxHeartbeats 8000000 in
set_option maxRecDepth 100000 in
theorem closed : joinedFacts Tryz.prog 7 Tryz.f7 (OpenSpec.ofChange Rows.fnSmartDashSpec).bare Rows.fnSmartDashRow = true := by
  unfold joinedFacts
  simp only [Bool.and_eq_true]
  repeat' (refine And.intro ?_ ?_)
  all_goals (as_aux_lemma => kernel_rfl)
theorem inst : Tryz.f7.isInstance Tryz.prog Rows.fnSmartDashRow.origin Rows.fnSmartDashRow.targs := of_decide_eq_true (by kernel_rfl)
theorem wrap : Tryz.f7.isWrapper Tryz.prog Rows.fnSmartDashRow.wrapper Rows.fnSmartDashRow.mainSum := by unfold Func.isWrapper; rw [if_neg (of_decide_eq_false (by kernel_rfl))]; exact ⟨rfl, rfl⟩
theorem looks : true = Tryz.prog.looks [] := by kernel_rfl
theorem named : Tryz.prog.funcNamed "pub-paratext/laws.FnSmartDash" = some 7 := by kernel_rfl
theorem noStand0 : Tryz.prog.wantsStandIn 9 = false := by kernel_rfl
theorem read0 : Tryz.prog.readableRec 9 = true := by kernel_rfl
theorem lt0 : 9 < Tryz.prog.types.size := of_decide_eq_true (by kernel_rfl)
theorem noStand1 : Tryz.prog.wantsStandIn 3 = false := by kernel_rfl
theorem read1 : Tryz.prog.readableRec 3 = true := by kernel_rfl
theorem lt1 : 3 < Tryz.prog.types.size := of_decide_eq_true (by kernel_rfl)
theorem noStand2 : Tryz.prog.wantsStandIn 4 = false := by kernel_rfl
theorem read2 : Tryz.prog.readableRec 4 = true := by kernel_rfl
theorem lt2 : 4 < Tryz.prog.types.size := of_decide_eq_true (by kernel_rfl)
end Go.Proofs.YtgdnbidjdiohkaaGreatDoor.fnSmartDash
/- The closed facts that the card of FnSmartDash asks of the program. -/


namespace Go.Proofs.YtgdnbidjdiohkaaGreatDoor.fnSmartDash
open Go.ChangeShapes Go.WideShapes Go.ChangeAt Go.RowKit
theorem goes : false = Rows.fnSmartDashRow.goesBy Tryz.pinned.checked.prog := by kernel_rfl
theorem wfBy : Rows.fnSmartDashRow.wfByText (OpenSpec.ofChange Rows.fnSmartDashSpec) = true := by kernel_rfl
theorem mainIs : Tryz.pinned.checked.prog.mainIs = some ((true, "1c089371cf4daa9d137093f1aff20c71e809b37cbb8b543fcd0dbc148f91c5e6").1, (true, "1c089371cf4daa9d137093f1aff20c71e809b37cbb8b543fcd0dbc148f91c5e6").2.toList) := by kernel_rfl
end Go.Proofs.YtgdnbidjdiohkaaGreatDoor.fnSmartDash
/- PROVED: for all arguments, with smart dashes two hyphens between words are an en dash, three an em dash, one is a hyphen; without them all are hyphens (the law FnSmartDash returns true). -/






namespace Go.Proofs.YtgdnbidjdiohkaaGreatDoor.fnSmartDash
open Go.ChangeShapes Go.WideShapes Go.ChangeAt Go.RowKit
theorem bytes_back (s : ByteArray) : (⟨s.data.toList.toArray⟩ : ByteArray) = s := by simp
set_option maxRecDepth 100000 in
/-- What the walk gives, for every argument and every world. -/
theorem contract (H : Type) (enc : TypeId × Value → H) (W : World) (base : Nat) (args : Array Value) (ds gs : List (DataW H)) (before : List MemPlace)
    (hval : ∀ (j : Nat) t v, Tryz.f7.params[j]? = some t → args[j]? = some v → Value.okWide Tryz.prog W .any base t v)
    (hW : DataW.Whole enc Tryz.prog Tryz.f7.params.toList Rows.fnSmartDashSpec.vars false W args.toList ds gs before) :
    Calls Tryz.prog 7 args W fun e W' => ∃ v, e = .returned v ∧ Rows.fnSmartDashSpec.post enc Tryz.prog Tryz.f7 false true false false W args v W' := by
  have hW' := hW
  obtain ⟨p, q, hA0, hV, rfl, hfz, hnd⟩ := hW
  have hAk := hA0
  have hA : DataW.TrodAll enc Tryz.prog W 0 (fun _ => true) true Tryz.f7.params.toList args.toList ds p := hA0
  rw [Tryz.params7] at hA hval
  obtain ⟨v0, vs0, d0, ds0, p0, q0, hargs0, rfl, rfl, h0, r0⟩ := trodAll_cons hA
  obtain ⟨v1, vs1, d1, ds1, p1, q1, rfl, rfl, rfl, h1, r1⟩ := trodAll_cons r0
  obtain ⟨v2, vs2, d2, ds2, p2, q2, rfl, rfl, rfl, h2, r2⟩ := trodAll_cons r1
  obtain ⟨v3, vs3, d3, ds3, p3, q3, rfl, rfl, rfl, h3, r3⟩ := trodAll_cons r2
  obtain ⟨rfl, rfl, rfl⟩ := trodAll_nil r3
  obtain rfl : args = #[v0, v1, v2, v3] := by cases args; simp_all
  obtain ⟨rfl, rfl⟩ := trodVars_none hV
  obtain ⟨l0, rfl, _, _, hl0⟩ := Go.ChangeMaps.open_string Tryz.underlying9 (hval 0 9 v0 rfl rfl) h0
  have hll0 : l0.data.toList.length ≤ 9223372036854775807 := by
    have : l0.data.toList.length = l0.size := Array.length_toList
    unfold maxLen at hl0
    omega
  obtain ⟨l1, rfl, _, _, hl1⟩ := Go.ChangeMaps.open_string Tryz.underlying9 (hval 1 9 v1 rfl rfl) h1
  have hll1 : l1.data.toList.length ≤ 9223372036854775807 := by
    have : l1.data.toList.length = l1.size := Array.length_toList
    unfold maxLen at hl1
    omega
  obtain ⟨z2, rfl, _, _, _⟩ := open_int Tryz.underlying3 (hval 2 3 v2 rfl rfl) h2
  obtain ⟨b3, rfl, _, _⟩ := open_bool Tryz.underlying4 (hval 3 4 v3 rfl rfl) h3
  have hlaw := law_dash l0.data.toList l1.data.toList z2 b3 W hll0 hll1
  rw [bytes_back, bytes_back] at hlaw
  refine hlaw.mono fun e W' ⟨he, hg⟩ => ?_
  subst he
  exact ⟨_, rfl, post_true hW' hAk rfl rfl rfl rfl rfl rfl (by rw [Tryz.params7]; intro t ht; simp at ht; rcases ht with rfl | rfl | rfl; (· exact ⟨read0, lt0⟩); (· exact ⟨read1, lt1⟩); exact ⟨read2, lt2⟩) hg⟩

theorem reads (os : Os) {H : Type} (enc : TypeId × Value → H) : ∃ places, DataW.whole enc Tryz.prog ((laidWorld os).forCall (fun _ _ => 0) ⟨#[], #[.string ⟨#[]⟩, .string ⟨#[]⟩, .int .i64 0, .bool false], []⟩).memory Tryz.f7.params.toList Rows.fnSmartDashSpec.vars false #[Value.string ⟨#[]⟩, Value.string ⟨#[]⟩, Value.int .i64 0, Value.bool false].toList 8 = some ([.lit (.string []), .lit (.string []), .lit (.int .i64 0), .lit (.bool false)], [], places) :=
  ⟨[], by kernel_rfl⟩

set_option maxRecDepth 100000 in
theorem lifted (os : Os) (started : os.Started) (H : Type) (enc : TypeId × Value → H) (F : Stop.Interp) :
    ReturnsInHanded {} Tryz.checked os 7 .any ((OpenSpec.ofChange Rows.fnSmartDashSpec).preRow enc Tryz.prog Tryz.f7 Rows.fnSmartDashRow.domain false Rows.fnSmartDashRow.laid) (((OpenSpec.ofChange Rows.fnSmartDashSpec).at F).post enc Tryz.prog Tryz.f7 false true false false) := by
  obtain ⟨places, hx⟩ := reads os enc
  refine returnsInHanded_of_row (C := Tryz.checked) (s := OpenSpec.ofChange Rows.fnSmartDashSpec) own started (by kernel_rfl) Tryz.func7
    (witness_row_atRef (enc := enc) (C := Tryz.checked) false (laidWorld os) #[.string ⟨#[]⟩, .string ⟨#[]⟩, .int .i64 0, .bool false] rfl (by kernel_rfl) (by kernel_rfl) (by kernel_rfl)
      (OpenSpec.preRow_of_cond 8 hx (by kernel_rfl) (fun k hk => by cases hk) (by kernel_rfl) (laid_met os _))) ?_
  intro W base args ds gs before hval hW _ _ _ _ _ _
  exact contract H enc W base args ds gs before hval hW

theorem said : Rows.FnSmartDashSaid :=
  OpenClaim.holds_of_cond 7 Tryz.f7 rfl rfl rfl rfl rfl rfl rfl ⟨rfl, rfl, rfl, rfl, rfl⟩ rfl rfl rfl rfl rfl named Tryz.func7 closed inst wrap
    (fun os started H enc _ F => by rw [OpenClaim.pre_eq_preRow]; exact lifted os started H enc F)

theorem plain (f : FuncId) (fn : Func) (hf : Tryz.pinned.checked.prog.funcNamed "pub-paratext/laws.FnSmartDash" = some f) (hfn : Tryz.pinned.checked.prog.funcs[f]? = some fn) :
    true = Tryz.pinned.checked.prog.looks [] ∧ ∀ (j : Nat) t, fn.params[j]? = some t → Tryz.pinned.checked.prog.wantsStandIn t = false := by
  obtain rfl : f = 7 := Option.some.inj (named.symm.trans hf) |>.symm
  obtain rfl : fn = Tryz.f7 := (Option.some.inj (Tryz.func7.symm.trans hfn)).symm
  refine ⟨looks, fun j t ht => ?_⟩
  rw [Tryz.params7] at ht
  have h : t = 9 ∨ t = 3 ∨ t = 4 := by simpa using Array.mem_of_getElem? ht
  rcases h with rfl | rfl | rfl
  · exact noStand0
  · exact noStand1
  · exact noStand2

theorem card : Rows.FnSmartDashCardSaid :=
  Claim7.holds_tied_plain_at .later [] _ _ _ _ said (fun _ h => by cases h) wfBy (fun _ h => by cases h) fnSmartDash_row_tie rfl ⟨rfl, rfl⟩ mainIs rfl plain goes
end Go.Proofs.YtgdnbidjdiohkaaGreatDoor.fnSmartDash
