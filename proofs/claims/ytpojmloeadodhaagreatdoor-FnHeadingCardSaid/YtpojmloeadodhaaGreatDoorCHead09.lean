/- Texts of this proof, joined: No list item begins with digits that no full stop and no bracket follow, Texts of words, spaces and hyphens: a paragraph each, and read as they are, ASCII punctuation: the program's question, and the law's. -/
import Derived.Test.YtpojmloeadodhaaGreatDoorCHead07
import Derived.Deep.DeepCutAuto
import Derived.Test.YtpojmloeadodhaaGreatDoorCHead08
import Derived.Test.YtpojmloeadodhaaGreatDoorCHead01
import Derived.Test.YtpojmloeadodhaaGreatDoorProg
import Derived.Test.YtpojmloeadodhaaGreatDoorCHead04
import Derived.Lib.AppendStr
import Derived.Laws.IdiomStrings
import Derived.Deep.MidRow
import Derived.Test.YtpojmloeadodhaaGreatDoorCHead02
import Derived.Test.YtpojmloeadodhaaGreatDoorCHead06
/- No list item begins with digits that no full stop and no bracket follow. -/


namespace Go.Proofs.YtpojmloeadodhaaGreatDoor
open Go.RowKit
def DigR (b : Nat) (s : ByteArray) (nl : Int) (w0 : World) (t9 t10 : Value) (wr : World) : Prop :=
  ∃ (j : Nat) (x : Int), t9 = .int .i64 x ∧ t10 = .int .i64 j ∧ j ≤ s.size ∧ j ≤ 9 ∧ (∀ k, k < j → 48 ≤ bt s k ∧ bt s k ≤ 57) ∧ IsLn wr b 0 0 s nl ∧ Below w0.heap.size w0 wr
set_option maxRecDepth 20000 in
set_option maxHeartbeats 4000000 in
theorem startListItem_dig (g b : Nat) (nl : Int) (s : ByteArray) (w : World) (h : IsLn w b 0 0 s nl) (hs : s.size ≤ 100000) (ht : ∀ k, bt s k ≠ 9) (h0 : bt s 0 = 48 ∨ bt s 0 = 49 ∨ bt s 0 = 57) (hq : ∀ k, (∀ j, j < k → 48 ≤ bt s j ∧ bt s j ≤ 57) → bt s k ≠ 46 ∧ bt s k ≠ 41) :
    Calls Tryz.prog 126 #[.pointer (some ⟨g, 0, none⟩), .pointer (some ⟨b, 0, none⟩)] w fun e w' => e = .returned (.bool false) ∧ Below w.heap.size w w' := by
  have hz0 := h.c0
  have h1 := h.c1
  have h2 := h.c2
  have h3 := h.c3
  have h4 := h.c4
  have hlt := Blk.lt h
  have hpos : 0 < s.size := by
    rcases Nat.eq_zero_or_pos s.size with he | he
    · unfold bt at h0; rw [dif_neg (by omega)] at h0; omega
    · exact he
  have HT := hid ht
  have HQ := hid hq
  clear ht hq h
  go_enter Tryz.func126, Tryz.ntmps126
  go_wp2_with fail
  go_step3
  go_wp2_with fail
  have hln : Hid (IsLn _ (w.heap.size + 1) 0 0 s nl) := hid (Blk.new' (w := World.alloc w (.cells #[.pointer (some ⟨g, 0, none⟩)] 97)) (t := 87) (cs := #[.int .i64 0, .int .i64 (0 : Nat), .int .i64 0, .string s, .int .u8 nl]) (by simp))
  have hbl : Hid (Below w.heap.size w (World.alloc _ _)) := hid (((Below.refl _ w).alloc (Nat.le_refl _) (.cells #[.pointer (some ⟨g, 0, none⟩)] 97)).alloc (by simp) (.cells #[.int .i64 0, .int .i64 (0 : Nat), .int .i64 0, .string s, .int .u8 nl] 87))
  refine wp_loop_rounds 1 ?_
  rw [rounds_succ]
  go_wp2_with fail
  refine (trimSp_any _ 0 1 1 false 0 nl s _ hln.out (by omega) (Nat.zero_le _) HT.out (by omega) (by omega)).mono ?_
  rintro e w2 ⟨j', a1, a2, a3, a4, a5, a6, hm2⟩
  have hj0 : j' = 0 := by
    rcases Nat.eq_zero_or_pos j' with h | h
    · exact h
    · have := a4 0 (Nat.le_refl _) h; omega
  rcases a6 with ⟨_, a7, _⟩ | ⟨rfl, _, _, _, hl2⟩
  · exfalso
    rcases a7 with h1 | h1 | h1
    · omega
    · omega
    · cases h1.1
  · have HL2 := hid hl2
    have HB2 := hid (hbl.out.trans (Mod.toBelow hm2 (by simp; omega) (fun k hk h => by omega)))
    clear a4 a5 hl2 hln hbl hz0 h1 h2 h3 h4 hm2
    go_wp2_with fail
    refine (peek_any _ 0 0 nl s _ HL2.out (by omega)).mono ?_
    rintro e w3 ⟨rfl, n3, rfl⟩
    have HL3 : Hid (IsLn (w2.drewN n3) (w.heap.size + 1) 0 0 s nl) := hid HL2.out
    have HB3 : Hid (Below w.heap.size w (w2.drewN n3)) := hid (below_drewN HB2.out n3)
    clear HL2 HB2
    generalize w2.drewN n3 = w4 at HL3 HB3 ⊢
    have d45 : (bt s 0 == 45) = false := by have : bt s 0 ≠ 45 := by omega
                                            simpa using this
    have d42 : (bt s 0 == 42) = false := by have : bt s 0 ≠ 42 := by omega
                                            simpa using this
    have d43 : (bt s 0 == 43) = false := by have : bt s 0 ≠ 43 := by omega
                                            simpa using this
    have hb := get_bt s
    have H0 := hid h0
    have b0 := HL3.out.c0
    have b1 := HL3.out.c1
    have b2 := HL3.out.c2
    have b3 := HL3.out.c3
    have b4 := HL3.out.c4
    rcases h0 with h0 | h0 | h0
    all_goals
      go_wp2_with fail
      go_step3
      go_wp2_with fail
      clear d45 d42 d43 h0
      go_loopw [9, 10, 11] (fun t9 t10 _ wr => DigR (w.heap.size + 1) s nl w t9 t10 wr) (fun _ t10 _ _ => s.size + 1 - (intOf t10).toNat)
      case atStart => exact ⟨0, 0, rfl, rfl, Nat.zero_le _, Nat.zero_le _, fun k hk => by omega, HL3.out, HB3.out⟩
      case round =>
        obtain ⟨j, x, rfl, rfl, hj, hj9, hd, hl, hbel⟩ := hrel
        have HL := hid hl
        have HB := hid hbel
        have HDD := hid hd
        clear b0 b1 b2 b3 b4
        have b0 := hl.c0
        have b1 := hl.c1
        have b2 := hl.c2
        have b3 := hl.c3
        have b4 := hl.c4
        clear hl hbel hd
        obtain ⟨n46, n41⟩ := HQ.out j HDD.out
        have e46 : (bt s j == 46) = false := by simpa using n46
        have e41 : (bt s j == 41) = false := by simpa using n41
        by_cases hlt : j < s.size
        · by_cases hlo : bt s j < 48
          · go_wp2_with fail
            all_goals (try rw [Exit.noGoto_ret])
            go_ret
            exact ⟨rfl, HB.out⟩
          · by_cases hhi : 57 < bt s j
            · go_wp2_with fail
              all_goals (try rw [Exit.noGoto_ret])
              go_ret
              exact ⟨rfl, HB.out⟩
            · by_cases h9 : 9 ≤ j
              · go_wp2_with fail
                all_goals (try rw [Exit.noGoto_ret])
                go_ret
                exact ⟨rfl, HB.out⟩
              · go_wp2_with fail
                go_roundw
                case rel => exact ⟨j + 1, _, rfl, by go_num, hlt, by omega, fun k hk => by
                  rcases Nat.lt_or_ge k j with h | h
                  · exact HDD.out k h
                  · obtain rfl : k = j := by omega
                    omega, HL.out, HB.out⟩
                case measure => simp [intOf]; omega
        · go_wp2_with fail
          all_goals (try rw [Exit.noGoto_ret])
          go_ret
          exact ⟨rfl, HB.out⟩
end Go.Proofs.YtpojmloeadodhaaGreatDoor
/- Texts of words, spaces and hyphens: a paragraph each, and read as they are. -/


namespace Go.Proofs.YtpojmloeadodhaaGreatDoor
open Go.RowKit
/-- The letters and digits of the laws' words. -/
def wcs : List UInt8 := [97, 98, 122, 48, 49, 57]
def wcs2 : List UInt8 := wcs ++ [32, 45]
theorem bt_mem (t : List UInt8) (k : Nat) (P : Int → Prop) (h0 : P 0) (h : ∀ c ∈ t, P (c.toNat : Int)) : P (bt ⟨t.toArray⟩ k) := by
  rw [bt_list]
  cases hk : t[k]? with
  | none => exact h0
  | some y => exact h y (List.mem_of_getElem? hk)
theorem bt_some {t : List UInt8} {k : Nat} {c : UInt8} (h : t[k]? = some c) : bt ⟨t.toArray⟩ k = (c.toNat : Int) := by rw [bt_list, h]
theorem bt_get {t : List UInt8} {k : Nat} (h : k < t.length) : ∃ c, t[k]? = some c ∧ c ∈ t ∧ bt ⟨t.toArray⟩ k = (c.toNat : Int) :=
  ⟨t[k], List.getElem?_eq_getElem h, List.getElem_mem h, bt_some (List.getElem?_eq_getElem h)⟩
theorem isWord_line (c0 : UInt8) (r : List UInt8) (h0 : c0 ∈ wcs) (h : ∀ c ∈ c0 :: r, c ∈ wcs2) (hl : (c0 :: r).length ≤ 100000) : ParLine ⟨(c0 :: r).toArray⟩ := by
  have all : ∀ (P : Int → Prop), P 0 → (∀ c ∈ wcs2, P (c.toNat : Int)) → ∀ k, P (bt ⟨(c0 :: r).toArray⟩ k) := fun P hp hc k => bt_mem _ k P hp (fun c hm => hc c (h c hm))
  have hb : bt ⟨(c0 :: r).toArray⟩ 0 = (c0.toNat : Int) := bt_some rfl
  have hsz : (ByteArray.mk (c0 :: r).toArray).size ≤ 100000 := by rw [sz_mk]; exact hl
  have htab := all (fun z => z ≠ 9) (by decide) (by decide)
  have first : ∀ (P : Int → Prop), (∀ c ∈ wcs, P (c.toNat : Int)) → P (bt ⟨(c0 :: r).toArray⟩ 0) := fun P hc => by rw [hb]; exact hc c0 h0
  have h32 := first (fun z => z ≠ 32) (by decide)
  refine { size := hsz, pos := by rw [sz_mk]; simp, tab := htab, q := fun k _ => all (fun z => z ≠ 62 ∧ z ≠ 35) (by decide) (by decide) k, h32 := h32, hr := first (fun z => z ≠ 42 ∧ z ≠ 45 ∧ z ≠ 95) (by decide), lt_ := first (fun z => z ≠ 60) (by decide), fence := first (fun z => z ≠ 126) (by decide), tick := first (fun z => z ≠ 96) (by decide), item := ?_ }
  intro g b nl w hw
  by_cases hd : bt ⟨(c0 :: r).toArray⟩ 0 = 48 ∨ bt ⟨(c0 :: r).toArray⟩ 0 = 49 ∨ bt ⟨(c0 :: r).toArray⟩ 0 = 57
  · exact startListItem_dig g b nl _ w hw hsz htab hd (fun k _ => all (fun z => z ≠ 46 ∧ z ≠ 41) (by decide) (by decide) k)
  · refine startListItem_no g b 0 0 nl _ w hw (by omega) (Nat.zero_le _) htab (fun k hk => ?_)
    rw [reach0 h32 hk]
    have := first (fun z => z = 48 ∨ z = 49 ∨ z = 57 ∨ NoItem z) (by unfold NoItem; decide)
    rcases this with e | e | e | e
    · exact absurd (.inl e) hd
    · exact absurd (.inr (.inl e)) hd
    · exact absurd (.inr (.inr e)) hd
    · exact e
theorem esc_self (l : List UInt8) (h : ∀ c ∈ l, c ≠ 34 ∧ c ≠ 38 ∧ c ≠ 60 ∧ c ≠ 62) : esc l = l := by
  induction l with
  | nil => rfl
  | cons a t ih =>
    have h1 := h a (List.mem_cons_self ..)
    have h2 := ih (fun c hc => h c (List.mem_cons_of_mem _ hc))
    unfold esc at h2 ⊢
    rw [List.flatMap_cons, h2]
    unfold esc1
    rw [if_neg h1.1, if_neg h1.2.1, if_neg h1.2.2.1, if_neg h1.2.2.2]
    rfl
theorem trim_self (l : List UInt8) (h0 : ∀ c, l[0]? = some c → c ≠ 32 ∧ c ≠ 9) (h1 : ∀ c, l.getLast? = some c → c ≠ 32 ∧ c ≠ 9) : trimR (trimL l) = l := by
  rw [trimL_self h0]
  unfold trimR
  have : l.reverse.dropWhile isST = l.reverse := by
    cases hr : l.reverse with
    | nil => rfl
    | cons a t =>
      have hl : l.getLast? = some a := by
        rw [← List.head?_reverse, hr]; rfl
      obtain ⟨q1, q2⟩ := h1 a hl
      rw [List.dropWhile_cons, if_neg]
      unfold isST
      simp [q1, q2]
  rw [this, List.reverse_reverse]
theorem piece_all (t : List UInt8) (h : 0 < t.length) : pieceK ⟨t.toArray⟩ 0 (ByteArray.mk t.toArray).size = [plainK t] := by
  unfold pieceK
  rw [sz_mk, if_pos h]
  simp
/-- What a list of plain texts prints. -/
def outP (k : Kind) : List UInt8 := match plainOf k with
  | some l => esc l
  | none => []
theorem outP_plain (l : List UInt8) : outP (plainK l) = esc l := by unfold outP; rw [plainOf_plain]
/-- A text without signs is read as it is. -/
theorem inlC_quiet (o : Opt) (t : List UInt8) (ha : o.auto_ = false) (hl : t.length ≤ 100000) (hp : 0 < t.length) (htr : trimR (trimL t) = t) (hq : ∀ (g : Nat), ∀ c ∈ t, parF o g (c.toNat : Int) = none ∧ c ≠ 96) : InlC o t (esc t) := by
  refine inlC_of o t (esc t) (fun _ em tk _ ks => em = 0 ∧ tk = false ∧ ks = []) (fun ks => ks = [plainK t]) ha hl htr (fun g r w hps hpar hne _ => ?_) (fun ks hF _ => ?_)
  · refine { start := ⟨rfl, rfl, rfl⟩, fin := ?_, quiet := ?_, tick := ?_, call := ?_ }
    · rintro em tk bk ks ⟨rfl, rfl, rfl⟩
      exact piece_all t hp
    · intro i em tk bk ks h _ _ _
      exact h
    · intro i em tk bk ks _ _ hi h96 _
      rw [sz_mk] at hi
      obtain ⟨c, _, h2, h3⟩ := bt_get hi
      rw [h3] at h96
      exact absurd (UInt8.toNat_inj.1 (by rw [show (96 : UInt8).toNat = 96 from rfl]; omega)) (hq 0 c h2).2
    · intro i em tk bk ks f rv _ _ hi hpf
      rw [sz_mk] at hi
      obtain ⟨c, _, h2, h3⟩ := bt_get hi
      rw [h3, (hq g c h2).1] at hpf
      cases hpf
  · subst hF
    refine ⟨by simp, by simp [plainOf_plain]; exact hl, outP, outP_plain, fun k hk hn => ?_, by simp [outP_plain]⟩
    simp only [List.mem_cons, List.not_mem_nil, or_false] at hk
    exact absurd hk (hn t)
end Go.Proofs.YtpojmloeadodhaaGreatDoor
/- ASCII punctuation: the program's question, and the law's. -/


namespace Go.Proofs.YtpojmloeadodhaaGreatDoor
open Go.RowKit
/-- ASCII punctuation. -/
def isPct (c : Int) : Bool := (decide (33 ≤ c) && decide (c ≤ 47)) || (decide (58 ≤ c) && decide (c ≤ 64)) || (decide (91 ≤ c) && decide (c ≤ 96)) || (decide (123 ≤ c) && decide (c ≤ 126))
theorem isPunct_any (c : Int) (w : World) : Calls Tryz.prog 84 #[.int .u8 c] w fun e w' => w' = w ∧ e = .returned (.bool (isPct c)) := by
  go_enter Tryz.func84, Tryz.ntmps84
  go_wp2
  all_goals go_ret
  all_goals refine ⟨rfl, ret_bool ?_⟩
  all_goals (unfold isPct; rw [Bool.eq_iff_iff]; simp; try omega)
theorem specPunct_any (c : Int) (w : World) : Calls Tryz.prog 30 #[.int .u8 c] w fun e w' => w' = w ∧ e = .returned (.bool (isPct c)) := by
  go_enter Tryz.func30, Tryz.ntmps30
  go_wp2
  all_goals go_ret
  all_goals refine ⟨rfl, ret_bool ?_⟩
  all_goals (unfold isPct; rw [Bool.eq_iff_iff]; simp; try omega)
end Go.Proofs.YtpojmloeadodhaaGreatDoor
/- A text with a backslash ahead of each sign: how it is read, and what it prints. -/


namespace Go.Proofs.YtpojmloeadodhaaGreatDoor
open Go.RowKit
def slash1 (c : UInt8) : List UInt8 := if isPct (c.toNat : Int) then [92, c] else [c]
def slash (l : List UInt8) : List UInt8 := l.flatMap slash1
theorem slash_snoc (l : List UInt8) (c : UInt8) : slash (l ++ [c]) = slash l ++ slash1 c := by simp [slash]
theorem slash1_len (c : UInt8) : 1 ≤ (slash1 c).length ∧ (slash1 c).length ≤ 2 := by
  unfold slash1
  split <;> simp
theorem slash_len (l : List UInt8) : l.length ≤ (slash l).length ∧ (slash l).length ≤ 2 * l.length := by
  induction l with
  | nil => simp [slash]
  | cons c t ih =>
    have h1 := slash1_len c
    have e : slash (c :: t) = slash1 c ++ slash t := by simp [slash]
    rw [e, List.length_append, List.length_cons]
    omega
theorem slash_split (l : List UInt8) (k : Nat) : slash l = slash (l.take k) ++ slash (l.drop k) := by
  have h : ∀ a b : List UInt8, slash (a ++ b) = slash a ++ slash b := fun a b => by simp [slash]
  rw [← h, List.take_append_drop]
theorem slash_drop (l : List UInt8) (k : Nat) (h : k < l.length) : slash (l.drop k) = slash1 l[k] ++ slash (l.drop (k + 1)) := by
  rw [List.drop_eq_getElem_cons h]
  show List.flatMap slash1 (l[k] :: l.drop (k + 1)) = _
  rw [List.flatMap_cons]
  rfl
/-- Behind the signs of k bytes the next ones are those of byte k. -/
theorem slash_at (l : List UInt8) (k j : Nat) (h : k < l.length) (hj : j < (slash1 l[k]).length) : (slash l)[(slash (l.take k)).length + j]? = (slash1 l[k])[j]? := by
  rw [slash_split l k, List.getElem?_append_right (by omega), show (slash (l.take k)).length + j - (slash (l.take k)).length = j from by omega, slash_drop l k h, List.getElem?_append_left hj]
theorem slash_take (l : List UInt8) (k : Nat) (h : k < l.length) : slash (l.take (k + 1)) = slash (l.take k) ++ slash1 l[k] := by
  rw [List.take_add_one, List.getElem?_eq_getElem h]
  exact slash_snoc _ _
theorem slash_end (l : List UInt8) (k : Nat) (hk : k ≤ l.length) (h : (slash (l.take k)).length = (slash l).length) : k = l.length := by
  rcases Nat.lt_or_ge k l.length with h1 | h1
  · exfalso
    have e := slash_split l k
    have h2 := slash_len (l.drop k)
    rw [e, List.length_append] at h
    rw [List.length_drop] at h2
    omega
  · omega
@[reducible] def escK (l : List UInt8) : Kind := ⟨157, 159, [lineV l]⟩
theorem escK_ok (l : List UInt8) : (escK l).Ok := ⟨(by decide : (159 : Nat) ≠ 77), (by decide : (159 : Nat) ≠ 113), (by decide : (159 : Nat) ≠ 94), fun _ _ => by kernel_rfl, fun _ _ => by kernel_rfl⟩
theorem escK_sure (l : List UInt8) : (escK l).Sure := ⟨escK_ok l, fun _ _ _ => by kernel_rfl⟩
theorem plainOf_esc (l : List UInt8) : plainOf (escK l) = none := by
  unfold plainOf
  rw [if_neg]
  rintro ⟨h, _⟩
  exact absurd h (by decide : (157 : Nat) ≠ 137)
def outE (k : Kind) : List UInt8 := match plainOf k with
  | some l => esc l
  | none => match k.cs with
    | [.string s] => esc s.data.toList
    | _ => []
theorem outE_plain (l : List UInt8) : outE (plainK l) = esc l := by unfold outE; rw [plainOf_plain]
theorem outE_esc (l : List UInt8) : outE (escK l) = esc l := by
  unfold outE
  rw [plainOf_esc]
  show esc (ByteArray.mk l.toArray).data.toList = _
  simp
theorem esc_kprints (l : List UInt8) (hl : l.length ≤ 100000) : KPrints (escK l) (esc l) := by
  rintro w B0 b bs v ⟨pb, rfl, hblk, _⟩ hb
  refine ⟨_, _, 252, .pointer (some ⟨pb, 0, none⟩), rfl, fun W => by kernel_rfl, Go.Proofs.enters_of Tryz.func252 (by kernel_rfl) rfl, fun B W hk hbf hB hlen => ?_⟩
  have hblk' : Blk W pb 159 #[.string ⟨l.toArray⟩] := hblk.kept hk (by have := hblk.lt; omega) (by decide : (159 : Nat) ≠ 5)
  exact plainHTML_any B b pb bs ⟨l.toArray⟩ W hblk' hbf hB (by show l.toArray.size ≤ 100000; rw [List.size_toArray]; exact hl) (by omega)
set_option maxHeartbeats 800000 in
theorem parseEscape_yes (p : Value) (s : ByteArray) (i : Nat) (c : UInt8) (w : World) (hs : s.size ≤ 100000) (hi : i + 2 ≤ s.size) (hc : bt s (i + 1) = (c.toNat : Int)) (hp : isPct (c.toNat : Int) = true) :
    Calls Tryz.prog 49 #[p, .string s, .int .i64 i] w fun e w' => ∃ b, e = .returned (.tuple #[.iface 157 (.pointer (some ⟨b, 0, none⟩)), .int .i64 i, .int .i64 ((i + 2 : Nat) : Int), .bool true]) ∧ w.heap.size ≤ b ∧ Blk w' b 159 #[.string (s.extract (i + 1) (i + 2))] ∧ Below w.heap.size w w' := by
  have hb := get_bt s
  have hI := hid (isPunct_any (bt s (i + 1)) w)
  rw [hc, hp] at hI
  go_enter Tryz.func49, Tryz.ntmps49
  go_wp2_with fail
  refine hI.out.mono ?_
  rintro e w1 ⟨rfl, rfl⟩
  go_wp2_with fail
  refine bodyPost_ret (by simp [results, Tryz.results49, go_sem]; try rfl) rfl ?_
  exact ⟨w1.heap.size, by rw [show ((i + 2 : Nat) : Int) = (i : Int) + 2 from by omega], Nat.le_refl _, Blk.new _ _ _, (Below.refl _ _).alloc (Nat.le_refl _) _⟩
theorem parF_pct (g : Nat) (z : Int) (f : FuncId) (rv : Array Value) (h : parF plainO g z = some (f, rv)) : isPct z = true ∨ z = 10 := by
  have key : z = 92 ∨ z = 96 ∨ z = 60 ∨ z = 91 ∨ z = 33 ∨ z = 95 ∨ z = 42 ∨ z = 10 ∨ z = 38 := by
    refine Classical.byContradiction fun hn => ?_
    have h' : parF plainO g z = none := by
      unfold parF
      simp only [plainO]
      repeat (first | rw [if_neg (by omega)] | simp)
    rw [h'] at h
    cases h
  rcases key with rfl | rfl | rfl | rfl | rfl | rfl | rfl | rfl | rfl <;> first | exact .inl rfl | exact .inr rfl
theorem pieceK_out (s : ByteArray) (em i : Nat) (h : em ≤ i) : (pieceK s em i).flatMap outE = esc ((s.data.toList.take i).drop em) := by
  unfold pieceK
  split
  · simp [outE_plain]
  · obtain rfl : em = i := by omega
    rw [List.drop_eq_nil_of_le (by rw [List.length_take]; omega)]
    rfl
theorem pieceK_plain (s : ByteArray) (em i : Nat) (_ : em ≤ i) : ((pieceK s em i).filterMap plainOf).flatten.length ≤ i - em := by
  unfold pieceK
  split
  · simp [plainOf_plain]
    omega
  · simp
theorem pieceK_kind (s : ByteArray) (em i : Nat) (hs : i ≤ 10000) : ∀ q ∈ pieceK s em i, ∃ x : List UInt8, x.length ≤ 10000 ∧ (q = plainK x ∨ q = escK x) := by
  intro q hq
  unfold pieceK at hq
  split at hq
  · simp only [List.mem_cons, List.not_mem_nil, or_false] at hq
    subst hq
    exact ⟨_, by rw [List.length_drop, List.length_take]; omega, .inl rfl⟩
  · cases hq
/-- How far a text has been read. -/
def SlJ (l : List UInt8) (i em : Nat) (tk : Bool) (ks : List Kind) : Prop :=
  tk = false ∧ ∃ k, k ≤ l.length ∧ i = (slash (l.take k)).length ∧ em ≤ i ∧ (∀ q ∈ ks, ∃ x : List UInt8, x.length ≤ 10000 ∧ (q = plainK x ∨ q = escK x)) ∧ ks.flatMap outE ++ esc (((slash l).take i).drop em) = esc (l.take k) ∧ (ks.filterMap plainOf).flatten.length ≤ em
theorem esc_app (a b : List UInt8) : esc (a ++ b) = esc a ++ esc b := by simp [esc]
theorem inlC_slash (l e : List UInt8) (hl : l.length ≤ 2000) (hp : 0 < l.length) (hc : ∀ c ∈ l, 32 ≤ c.toNat ∧ c.toNat ≤ 126) (he : e.length ≤ 100) (htr : trimR (trimL (slash l ++ e)) = slash l) : InlC plainO (slash l ++ e) (esc l) := by
  have hsl := slash_len l
  have hsz : (ByteArray.mk (slash l).toArray).size = (slash l).length := sz_mk _
  refine inlC_of2 plainO (slash l ++ e) (slash l) (esc l) (fun i em tk _ ks => SlJ l i em tk ks) (fun ks => (∀ q ∈ ks, ∃ x : List UInt8, x.length ≤ 10000 ∧ (q = plainK x ∨ q = escK x)) ∧ ks.flatMap outE = esc l ∧ (ks.filterMap plainOf).flatten.length ≤ 10000) rfl (by rw [List.length_append]; omega) (by omega) htr (fun g r w hps hpar hne _ => ?_) (fun ks hF _ => ?_)
  · refine { start := ⟨rfl, 0, Nat.zero_le _, rfl, Nat.le_refl _, (fun q hq => by cases hq), by simp [esc], Nat.le_refl _⟩, fin := ?_, quiet := ?_, tick := ?_, call := ?_ }
    · rintro em tk bk ks ⟨_, k, hk, hi, hei, hks, hout, hpl⟩
      rw [hsz] at hi hei hout ⊢
      have hkl := slash_end l k hk hi.symm
      subst hkl
      have etl : l.take l.length = l := List.take_of_length_le (Nat.le_refl _)
      rw [etl] at hout
      have hout2 : (ks ++ pieceK ⟨(slash l).toArray⟩ em (slash l).length).flatMap outE = esc l := by
        rw [List.flatMap_append, pieceK_out _ _ _ hei]
        exact hout
      refine ⟨fun q hq => ?_, hout2, ?_⟩
      · rcases List.mem_append.1 hq with h | h
        · exact hks q h
        · exact pieceK_kind _ _ _ (by omega) q h
      · have := pieceK_plain ⟨(slash l).toArray⟩ em (slash l).length hei
        rw [List.filterMap_append, List.flatten_append, List.length_append]
        omega
    · rintro i em tk bk ks ⟨h0, k, hk, rfl, hei, hks, hout, hpl⟩ _ hi hpf
      rw [hsz] at hi
      have hkl : k < l.length := by
        rcases Nat.lt_or_ge k l.length with h | h
        · exact h
        · rw [List.take_of_length_le h] at hi; omega
      have hnp : isPct (l[k].toNat : Int) = false := by
        cases hq : isPct (l[k].toNat : Int) with
        | false => rfl
        | true =>
          have h1 := slash_at l k 0 hkl (by have := slash1_len l[k]; omega)
          have h2 : (slash1 l[k])[0]? = some 92 := by unfold slash1; rw [if_pos hq]; rfl
          rw [Nat.add_zero, h2] at h1
          rw [bt_some h1] at hpf
          cases hpf
      have hs1 : slash1 l[k] = [l[k]] := by unfold slash1; rw [if_neg (by rw [hnp]; decide)]
      have htk := slash_take l k hkl
      rw [hs1] at htk
      have hlen : (slash (l.take (k + 1))).length = (slash (l.take k)).length + 1 := by rw [htk]; simp
      have hch : (slash l)[(slash (l.take k)).length]? = some l[k] := by
        have := slash_at l k 0 hkl (by rw [hs1]; simp)
        rw [Nat.add_zero, hs1] at this
        exact this
      refine ⟨h0, k + 1, hkl, hlen.symm, by omega, hks, ?_, hpl⟩
      rw [List.take_add_one, hch, List.drop_append_of_le_length (by rw [List.length_take]; omega), esc_app, ← List.append_assoc, hout, ← esc_app, List.take_add_one, List.getElem?_eq_getElem hkl]
    · rintro i em tk bk ks ⟨_, k, hk, rfl, _⟩ _ hi h96 _
      exfalso
      rw [hsz] at hi
      have hkl : k < l.length := by
        rcases Nat.lt_or_ge k l.length with h | h
        · exact h
        · rw [List.take_of_length_le h] at hi; omega
      have h1 := slash_at l k 0 hkl (by have := slash1_len l[k]; omega)
      rw [Nat.add_zero] at h1
      by_cases hq : isPct (l[k].toNat : Int) = true
      · have h2 : (slash1 l[k])[0]? = some 92 := by unfold slash1; rw [if_pos hq]; rfl
        rw [h2] at h1
        rw [bt_some h1] at h96
        cases h96
      · have h2 : (slash1 l[k])[0]? = some l[k] := by unfold slash1; rw [if_neg hq]; rfl
        rw [h2] at h1
        rw [bt_some h1] at h96
        rw [h96] at hq
        exact hq rfl
    · rintro i em tk bk ks f rv ⟨rfl, k, hk, rfl, hei, hks, hout, hpl⟩ _ hi hpf c W hin hm
      have hsz2 : (ByteArray.mk (slash l).toArray).size ≤ 100000 := by rw [hsz]; omega
      rw [hsz] at hi
      have hkl : k < l.length := by
        rcases Nat.lt_or_ge k l.length with h | h
        · exact h
        · rw [List.take_of_length_le h] at hi; omega
      have h1 := slash_at l k 0 hkl (by have := slash1_len l[k]; omega)
      rw [Nat.add_zero] at h1
      have hchr := hc _ (List.getElem_mem hkl)
      by_cases hq : isPct (l[k].toNat : Int) = true
      · have hs1 : slash1 l[k] = [92, l[k]] := by unfold slash1; rw [if_pos hq]
        have h2 := slash_at l k 1 hkl (by rw [hs1]; simp)
        rw [hs1] at h1 h2
        have b1 : bt ⟨(slash l).toArray⟩ (slash (l.take k)).length = 92 := bt_some h1
        have b2 : bt ⟨(slash l).toArray⟩ ((slash (l.take k)).length + 1) = (l[k].toNat : Int) := bt_some h2
        have htk := slash_take l k hkl
        rw [hs1] at htk
        have hlen : (slash (l.take (k + 1))).length = (slash (l.take k)).length + 2 := by rw [htk]; simp
        have hle : (slash (l.take k)).length + 2 ≤ (slash l).length := by
          rw [← hlen]
          have := slash_split l (k + 1)
          rw [this, List.length_append]
          omega
        rw [b1] at hpf hin
        simp only [parF, if_true, Option.some.injEq, Prod.mk.injEq] at hpf
        obtain ⟨rfl, rfl⟩ := hpf
        generalize hi0 : (slash (l.take k)).length = i0 at *
        refine (parseEscape_yes (.pointer (some ⟨g, 0, none⟩)) ⟨(slash l).toArray⟩ i0 l[k] W hsz2 (by rw [hsz]; exact hle) b2 hq).mono ?_
        rintro e' w' ⟨q, rfl, hq0, hblk, hbel⟩
        have hex : (ByteArray.mk (slash l).toArray).extract (i0 + 1) (i0 + 2) = ⟨[l[k]].toArray⟩ := by
          rw [extract_mk]
          congr 2
          apply List.ext_getElem?
          intro j
          rw [List.getElem?_drop, List.getElem?_take]
          cases j with
          | zero => rw [if_pos (by omega)]; exact h2
          | succ j => rw [if_neg (by omega)]; rfl
        rw [hex] at hblk
        have hWs : w.heap.size ≤ W.heap.size := hm.size
        have hm1 : Mod (fun k => k = g ∨ w.heap.size ≤ k) W w' := Mod.below hbel (fun k h1 h2 => .inr (Nat.le_trans hWs h2))
        obtain ⟨lst, vs, hps1, hrow1, hln1, hit1⟩ := hin
        refine ⟨c, _, ⟨lst, vs, hps1.below hbel, own_mod hrow1 (Mod.below' (S := fun _ => False) hbel) (fun _ _ x => x), hln1, hit1.mod (S := fun _ => False) (Mod.below' hbel) (fun _ _ _ _ _ _ x => x)⟩, hm1, .inr ⟨_, escK [l[k]], i0, i0 + 2, rfl, ⟨q, rfl, hblk, Nat.le_trans hWs hq0⟩, escK_sure _, hei, by rw [hsz]; omega, by omega, by omega, by rw [hsz]; exact hle, ?_⟩⟩
        have hpk := pieceK_out ⟨(slash l).toArray⟩ em i0 hei
        have hpp := pieceK_plain ⟨(slash l).toArray⟩ em i0 hei
        refine ⟨by rw [b1]; rfl, k + 1, hkl, hlen.symm, Nat.le_refl _, fun x hx => ?_, ?_, ?_⟩
        · rcases List.mem_append.1 hx with h | h
          · rcases List.mem_append.1 h with h | h
            · exact hks x h
            · exact pieceK_kind _ _ _ (by omega) x h
          · simp only [List.mem_cons, List.not_mem_nil, or_false] at h
            subst h
            exact ⟨[l[k]], by simp, .inr rfl⟩
        · rw [List.drop_eq_nil_of_le (by rw [List.length_take]; omega), List.flatMap_append, List.flatMap_append, hpk]
          simp only [List.flatMap_cons, List.flatMap_nil, outE_esc, List.append_nil]
          rw [show ((ByteArray.mk (slash l).toArray).data.toList.take i0).drop em = ((slash l).take i0).drop em from by simp, hout, ← esc_app, List.take_add_one, List.getElem?_eq_getElem hkl]
          simp [esc]
        · rw [List.filterMap_append, List.filterMap_append, List.flatten_append, List.flatten_append, List.length_append, List.length_append]
          have : (([escK [l[k]]] : List Kind).filterMap plainOf).flatten.length = 0 := by simp [plainOf_esc]
          omega
      · exfalso
        have hs1 : slash1 l[k] = [l[k]] := by unfold slash1; rw [if_neg hq]
        rw [hs1] at h1
        rw [bt_some h1] at hpf
        rcases parF_pct g _ f rv hpf with h | h
        · exact hq h
        · omega
  · obtain ⟨hks, hout, hpl⟩ := hF
    refine ⟨fun e => ?_, by omega, outE, outE_plain, fun k hk hnk => ?_, hout⟩
    · subst e
      cases l with
      | nil => simp at hp
      | cons a t =>
        have h1 : (esc (a :: t)).length = 0 := by rw [← hout]; rfl
        have h2 : esc (a :: t) = esc1 a ++ esc t := by simp [esc]
        rw [h2, List.length_append] at h1
        have h3 : 1 ≤ (esc1 a).length := by unfold esc1; repeat' split
                                            all_goals simp
        omega
    · obtain ⟨x, hx, h | h⟩ := hks k hk
      · exact absurd h (hnk x)
      · subst h
        rw [outE_esc]
        exact esc_kprints x (by omega)
end Go.Proofs.YtpojmloeadodhaaGreatDoor
/- What a code span's parser calls: the search for a line feed, the spaces at a text's ends; its memory of runs. -/





namespace Go.Proofs.YtpojmloeadodhaaGreatDoor
open Go.RowKit
theorem infoU8b : (Tryz.prog.info? 5).map (fun i => (i.zero, i.size, i.bytes)) = some (some (.int .u8 0), 1, 1) := by kernel_rfl
theorem own_shape {w : World} {B n : Nat} {e : TypeId} {v : Value} {xs : List Value} (h : w.ownsRow B e 1 v n xs) (h0 : 0 < n) : ∃ g2 cap2, v = .slice (some ⟨g2, 0, none⟩) n cap2 := by
  rcases h.2 with ⟨_, h2⟩ | ⟨g2, cap2, cur, h1, _⟩
  · omega
  · exact ⟨g2, cap2, h1⟩
theorem conv_of {w2 : World} {B g2 cap2 : Nat} {l : List UInt8} (hown : w2.ownsRow B 5 1 (.slice (some ⟨g2, 0, none⟩) l.length cap2) l.length (Go.Lib.strCells ⟨l.toArray⟩)) :
    (convert 51 9 (.slice (some ⟨g2, 0, none⟩) l.length cap2)).run Tryz.prog w2 = .ok (.string ⟨l.toArray⟩) w2 :=
  run_convert_bytes_back (P := Tryz.prog) w2 51 9 5 ⟨g2, 0, none⟩ cap2 l Tryz.underlying51 Tryz.underlying5 Tryz.underlying9 (fun j hj => by
    have := World.ownsRow.cellAt hown j (by simpa using hj)
    rw [Go.Lib.strCells, List.getElem?_map] at this
    rw [show ((⟨g2, 0, none⟩ : Addr).add j) = ⟨g2, j, none⟩ from by unfold Addr.add; split <;> simp_all]
    rw [show (ByteArray.mk l.toArray).data.toList = l from by simp, List.getElem?_eq_getElem hj] at this
    simpa using this)
set_option maxRecDepth 20000 in
set_option maxHeartbeats 800000 in
/-- A text without the byte stays as it is. -/
theorem replaceAll_no (l : List UInt8) (c : UInt8) (y : ByteArray) (w : World) (hl : l.length ≤ 100000) (h0 : 0 < l.length) (hc : c ∉ l) :
    Calls Tryz.prog 36 #[.string ⟨l.toArray⟩, .string ⟨#[c]⟩, .string y] w fun e w' => e = .returned (.string ⟨l.toArray⟩) ∧ Below w.heap.size w w' := by
  obtain ⟨is0, his0, hsz0, hsz1, hsz2⟩ := info_parts infoU8b
  have hno : idxB c l = -1 := idxB_not _ _ hc
  have hZ := hid (show Calls Tryz.prog 38 #[.string ⟨l.toArray⟩, .string ⟨#[c]⟩] w fun e w' => e = .returned (.int .i64 (-1)) ∧ w = w' from by
    have := zzIndex1 ⟨l.toArray⟩ c w (bsz (by omega))
    simp only [hno] at this
    exact this)
  have hsz : (ByteArray.mk l.toArray).size = l.length := List.size_toArray ..
  go_enter Tryz.func36, Tryz.ntmps36
  go_wp2_with fail
  refine wp_loop_rounds 1 ?_
  rw [rounds_succ]
  go_wp2_with (first | (go_at_call 38; refine hZ.out.mono ?_; rintro e w' ⟨rfl, rfl⟩) | (at_builtin; refine Go.Lib.wpList_append_own_string _ rfl (.tmp 14) (.tmp 15) 51 9 (by rfl) w.heap.size 5 is0 Tryz.underlying51 Tryz.underlying9 his0 hsz0 hsz1 hsz2 (.slice none 0 0) 0 [] (by rfl) (World.ownsRow_nil _ _ _ _) ⟨l.toArray⟩ (by rfl) (by unfold maxLen; omega) (by omega) (Nat.le_refl _) ?_; intro v' w2 hown hgr hnil; rw [hsz, Nat.zero_add, List.nil_append] at hown; obtain ⟨g2, cap2, rfl⟩ := own_shape hown h0; have hcv := conv_of hown))
  have hb : Below w.heap.size w w2 := (Below.refl _ w).grown hgr (Nat.le_refl _) (fun q hq => by cases hq)
  clear hown hgr hnil
  go_ret
  exact ⟨rfl, hb⟩
/-- Many cells are filled, side by side. -/
theorem blk_setMany {g : Nat} {t : TypeId} : ∀ (vs bs A : List Value) (w : World), bs.length = vs.length → Blk w g t (A ++ bs).toArray → Blk (w.setCells g A.length vs) g t (A ++ vs).toArray
  | [], [], A, w, _, h => h
  | v :: vs, b :: bs, A, w, hl, h => by
    have h1 := Blk.set_ h A.length v
    rw [List.setIfInBounds_toArray, List.set_append_right _ _ (Nat.le_refl _), Nat.sub_self, List.set_cons_zero] at h1
    have h2 := blk_setMany vs bs (A ++ [v]) (w.setCell ⟨g, A.length, none⟩ v) (by simpa using hl) (by simpa using h1)
    rw [List.length_append, List.length_cons, List.length_nil] at h2
    simpa [World.setCells] using h2
  | [], _ :: _, _, _, hl, _ => by simp at hl
  | _ :: _, [], _, _, hl, _ => by simp at hl
theorem mod_setMany {S : Nat → Prop} {g : Nat} (hg : S g) : ∀ (vs : List Value) (o : Nat) (w : World), Mod S w (w.setCells g o vs)
  | [], _, w => Mod.refl _ w
  | v :: vs, o, w => ((Mod.refl S w).setCell (p := ⟨g, o, none⟩) (.inl hg) v).trans (mod_setMany hg vs (o + 1) _) (fun _ _ h => h)
theorem IsPS.setBack {w : World} {g : Nat} {r : PSr} (h : IsPS w g r) (vs : List Value) (hl : r.back.length = vs.length) : IsPS (w.setCells g 12 vs) g { r with back := vs } := blk_setMany vs r.back _ w hl h
theorem IsPS.setBack1 {w : World} {g : Nat} {r : PSr} (h : IsPS w g r) (k : Nat) (v : Value) : IsPS (w.setCell ⟨g, k + 12, none⟩ v) g { r with back := r.back.set k v } := by
  have := Blk.set_ h (k + 12) v
  rw [List.setIfInBounds_toArray] at this
  exact this
theorem IsPS.backAt {w : World} {g : Nat} {r : PSr} (h : IsPS w g r) {k : Nat} {v : Value} (hk : r.back[k]? = some v) : w.cell? ⟨g, k + 12, none⟩ = some v := by
  refine Blk.at_ h (k + 12) ?_
  rw [List.getElem?_toArray]
  exact hk
theorem zeroBackA : (Tryz.zeroCells75).toList = List.replicate 80 (.int .i64 0) ++ [.bool false] := by kernel_rfl
end Go.Proofs.YtpojmloeadodhaaGreatDoor
/- What the law FnHeading calls: full, ascii, slashed. -/



namespace Go.Proofs.YtpojmloeadodhaaGreatDoor
open Go.RowKit
def FullP (l : List UInt8) : Prop := (∃ c r, l = c :: r ∧ c ≠ 32) ∧ (∀ c, l.getLast? = some c → c ≠ 32)
set_option maxRecDepth 20000 in
theorem full_any (l : List UInt8) (w : World) (_ : l.length ≤ 9223372036854775807) : Calls Tryz.prog 14 #[.string ⟨l.toArray⟩] w (BoolF (FullP l) w) := by
  have hsz : (ByteArray.mk l.toArray).size = l.length := sz_mk l
  have hb := get_bt ⟨l.toArray⟩
  cases hl : l with
  | nil =>
    go_enter Tryz.func14, Tryz.ntmps14
    go_wp2_with fail
    go_ret
    exact BoolF.no w
  | cons c r =>
    rw [← hl]
    have hp : 0 < l.length := by rw [hl]; simp
    have hie : l.isEmpty = false := by rw [hl]; rfl
    have hne : (l = []) = False := by rw [hl]; simp
    have h0 : bt ⟨l.toArray⟩ 0 = (c.toNat : Int) := bt_some (by rw [hl]; rfl)
    obtain ⟨x, hx1, _, hx3⟩ := bt_get (t := l) (k := l.length - 1) (by omega)
    have hlast : l.getLast? = some x := by rw [List.getLast?_eq_getElem?]; exact hx1
    have HX3 := hid hx3
    have H0 := hid h0
    have HL := hid hl
    clear hx1 hx3 h0 hl
    by_cases f1 : bt ⟨l.toArray⟩ 0 = 32
    · have g1 : (bt ⟨l.toArray⟩ 0 != 32) = false := by simp [bne, f1]
      go_enter Tryz.func14, Tryz.ntmps14
      go_wp2_with fail
      go_ret
      exact BoolF.no w
    · have g1 : (bt ⟨l.toArray⟩ 0 != 32) = true := by simp [bne]; exact f1
      by_cases f2 : bt ⟨l.toArray⟩ (l.length - 1) = 32
      · have g2 : (bt ⟨l.toArray⟩ (l.length - 1) != 32) = false := by simp [bne, f2]
        go_enter Tryz.func14, Tryz.ntmps14
        go_wp2_with fail
        go_ret
        exact BoolF.no w
      · have g2 : (bt ⟨l.toArray⟩ (l.length - 1) != 32) = true := by simp [bne]; exact f2
        go_enter Tryz.func14, Tryz.ntmps14
        go_wp2_with fail
        go_ret
        have hfp : FullP l := ⟨⟨c, r, HL.out, fun e => f1 (by rw [H0.out, e]; rfl)⟩, fun y hy => by
          rw [hlast] at hy
          cases hy
          exact fun e => f2 (by rw [HX3.out, e]; rfl)⟩
        exact BoolF.yes w hfp
set_option maxRecDepth 20000 in
set_option maxHeartbeats 1600000 in
theorem ascii_any (l : List UInt8) (w : World) (_ : l.length ≤ 9223372036854775807) : Calls Tryz.prog 15 #[.string ⟨l.toArray⟩, .bool false] w (BoolF (∀ c ∈ l, 32 ≤ c.toNat ∧ c.toNat ≤ 126) w) := by
  have hb := get_bt ⟨l.toArray⟩
  have hsz : (ByteArray.mk l.toArray).size = l.length := sz_mk l
  go_enter Tryz.func15, Tryz.ntmps15
  go_wp2_with fail
  go_loopw [5] (fun t5 wr => ∃ k : Nat, t5 = .int .i64 k ∧ k ≤ l.length ∧ (∀ c ∈ l.take k, 32 ≤ c.toNat ∧ c.toNat ≤ 126) ∧ w = wr) (fun t5 _ => l.length + 1 - (intOf t5).toNat)
  case atStart => exact ⟨0, rfl, Nat.zero_le _, fun c hc => by simp at hc, rfl⟩
  case round =>
    obtain ⟨k, rfl, hk, hin, rfl⟩ := hrel
    have HIN := hid hin
    clear hin
    by_cases hlt : k < l.length
    · obtain ⟨c, hc1, hc2, hc3⟩ := bt_get hlt
      have HC := hid hc1
      have HC3 := hid hc3
      clear hc1 hc2 hc3
      by_cases hlo : bt ⟨l.toArray⟩ k < 32
      · go_wp2_with fail
        go_ret
        exact BoolF.no _
      · by_cases hhi : 126 < bt ⟨l.toArray⟩ k
        · go_wp2_with fail
          go_ret
          exact BoolF.no _
        · go_wp2_with fail
          go_roundw
          case rel => exact ⟨k + 1, by go_num, hlt, fun x hx => by
            rw [List.take_add_one, HC.out] at hx
            rcases List.mem_append.1 hx with h | h
            · exact HIN.out x h
            · simp at h
              subst h
              rw [HC3.out] at hlo hhi
              omega, trivial⟩
          case measure => simp [intOf]; omega
    · obtain rfl : k = l.length := by omega
      rw [List.take_of_length_le (Nat.le_refl _)] at HIN
      go_wp2_with fail
      go_ret
      exact BoolF.yes _ HIN.out
def byteV2 (c : UInt8) : Value := .int .u8 (c.toNat : Int)
def SlashR (l : List UInt8) (w0 : World) (t3 t4 : Value) (wr : World) : Prop :=
  ∃ (i g cap : Nat), i ≤ l.length ∧ t4 = .int .i64 i ∧ t3 = .slice (some ⟨g, 0, none⟩) (slash (l.take i)).length cap ∧ wr.ownsRow w0.heap.size 5 1 (.slice (some ⟨g, 0, none⟩) (slash (l.take i)).length cap) (slash (l.take i)).length ((slash (l.take i)).map byteV2) ∧ Below w0.heap.size w0 wr
theorem conv_row {w2 : World} {B g2 cap2 : Nat} {l : List UInt8} (hown : w2.ownsRow B 5 1 (.slice (some ⟨g2, 0, none⟩) l.length cap2) l.length (l.map byteV2)) :
    (convert 51 9 (.slice (some ⟨g2, 0, none⟩) l.length cap2)).run Tryz.prog w2 = .ok (.string ⟨l.toArray⟩) w2 :=
  run_convert_bytes_back (P := Tryz.prog) w2 51 9 5 ⟨g2, 0, none⟩ cap2 l Tryz.underlying51 Tryz.underlying5 Tryz.underlying9 (fun j hj => by
    have := World.ownsRow.cellAt hown j (by simpa using hj)
    rw [List.getElem?_map] at this
    rw [show ((⟨g2, 0, none⟩ : Addr).add j) = ⟨g2, j, none⟩ from by unfold Addr.add; split <;> simp_all]
    rw [List.getElem?_eq_getElem hj] at this
    simpa [byteV2] using this)
set_option maxRecDepth 20000 in
set_option maxHeartbeats 1600000 in
theorem slashed_any (l : List UInt8) (w : World) (hl : l.length ≤ 100000) : Calls Tryz.prog 17 #[.string ⟨l.toArray⟩] w fun e w' => e = .returned (.string ⟨(slash l).toArray⟩) ∧ Below w.heap.size w w' := by
  obtain ⟨is0, his, hsz0, hsz1, hsz2⟩ := info_parts infoU8b
  have hb := get_bt ⟨l.toArray⟩
  have hsz : (ByteArray.mk l.toArray).size = l.length := sz_mk l
  have HSP := hid specPunct_any
  go_enter Tryz.func17, Tryz.ntmps17
  go_wp2_with fail
  go_loopw [3, 4] (fun t3 t4 wr => SlashR l w t3 t4 wr) (fun _ t4 _ => l.length + 1 - (intOf t4).toNat)
  case atStart => exact ⟨0, w.heap.size, 0, Nat.zero_le _, rfl, rfl, ⟨rfl, .inr ⟨w.heap.size, 0, #[], rfl, Nat.le_refl _, Blk.new _ _ _, by simp [slash], by unfold maxLen; omega, rfl, rfl⟩⟩, (Below.refl _ _).alloc (Nat.le_refl _) _⟩
  case round =>
    obtain ⟨i, g, cap, hi, rfl, rfl, hown, hbel⟩ := hrel
    have HOWN := hid hown
    have HB := hid hbel
    have hsl := slash_len (l.take i)
    have hil : (l.take i).length ≤ l.length := by rw [List.length_take]; omega
    clear hown hbel
    by_cases hlt : i < l.length
    · obtain ⟨c, hc1, hc2, hc3⟩ := bt_get hlt
      have HC1 := hid hc1
      have HC3 := hid hc3
      have htk : Hid (slash (l.take (i + 1)) = slash (l.take i) ++ slash1 c) := hid (by
        rw [List.take_add_one, hc1]; exact slash_snoc _ _)
      clear hc1 hc2 hc3
      generalize hS : slash (l.take i) = S at HOWN hsl htk ⊢
      have HSd := hid hS
      clear hS
      go_wp2_with fail
      refine (HSP.out (bt ⟨l.toArray⟩ i) wr).mono ?_
      rintro e w1 ⟨rfl, rfl⟩
      cases hp : isPct (bt ⟨l.toArray⟩ i) with
      | true =>
        go_wp2_with (at_builtin; refine wpList_append_own_at _ rfl (.tmp 16) (.tmp 17) 51 rfl w.heap.size 5 is0 _ 1 1 Tryz.underlying51 his hsz0 hsz1 hsz2 rfl (by decide) (.slice (some ⟨g, 0, none⟩) S.length cap) S.length (S.map byteV2) rfl (World.ownsRow.alloc HOWN.out _) ⟨_, 0, none⟩ 1 1 [.int .u8 92] rfl rfl (World.news_of_block (heap_alloc_new _ _)) (by intro v hv; simp at hv; subst hv; rfl) (by unfold maxLen; omega) (by omega) (by have := HB.out.size; simp; omega) ?_)
        intro va wa howna hgra hnila hata
        obtain ⟨ga, capa, rfl, hca⟩ : ∃ ga capa, va = .slice (some ⟨ga, 0, none⟩) (S.length + 1) capa ∧ S.length + 1 ≤ capa := by
          rcases howna.2 with ⟨h1, h2⟩ | ⟨g2, cap2, cur, h1, _, _, h2, _⟩
          · exact absurd h2 (by omega)
          · exact ⟨g2, cap2, h1, h2⟩
        have HBa := hid ((HB.out.alloc HB.out.size _).grown hgra (by have := HB.out.size; simp; omega) (fun q hq => ownBase HOWN.out hq.symm))
        have HOa := hid howna
        clear howna hgra hnila hata
        go_wp2_with (at_builtin; refine wpList_append_own_at _ rfl (.tmp 19) (.tmp 23) 51 rfl w.heap.size 5 is0 _ 1 1 Tryz.underlying51 his hsz0 hsz1 hsz2 rfl (by decide) (.slice (some ⟨ga, 0, none⟩) (S.length + 1) capa) (S.length + 1) (S.map byteV2 ++ [.int .u8 92]) rfl (World.ownsRow.alloc HOa.out _) ⟨_, 0, none⟩ 1 1 [.int .u8 (bt ⟨l.toArray⟩ i)] rfl rfl (World.news_of_block (heap_alloc_new _ _)) (by intro v hv; simp at hv; subst hv; rfl) (by unfold maxLen; omega) (by omega) (by have := HBa.out.size; simp; omega) ?_)
        intro vb wb hownb hgrb hnilb hatb
        obtain ⟨gb, capb, rfl, hcb⟩ : ∃ gb capb, vb = .slice (some ⟨gb, 0, none⟩) (S.length + 1 + 1) capb ∧ S.length + 1 + 1 ≤ capb := by
          rcases hownb.2 with ⟨h1, h2⟩ | ⟨g2, cap2, cur, h1, _, _, h2, _⟩
          · exact absurd h2 (by omega)
          · exact ⟨g2, cap2, h1, h2⟩
        have HBb := hid ((HBa.out.alloc HBa.out.size _).grown hgrb (by have := HBa.out.size; simp; omega) (fun q hq => ownBase HOa.out hq.symm))
        have HOb := hid hownb
        clear hownb hgrb hnilb hatb
        go_wp2_with fail
        go_roundw
        case rel =>
          refine ⟨i + 1, gb, capb, hlt, by go_num, ?_⟩
          rw [htk.out, show slash1 c = [92, c] from by unfold slash1; rw [HC3.out] at hp; rw [if_pos hp]]
          have hb2 : byteV2 c = .int .u8 (bt ⟨l.toArray⟩ i) := by unfold byteV2; rw [HC3.out]
          exact ⟨by simp, by simpa [byteV2, HC3.out, hb2] using HOb.out, HBb.out⟩
        case measure => simp [intOf]; omega
      | false =>
        go_wp2_with (at_builtin; refine wpList_append_own_at _ rfl (.tmp 19) (.tmp 23) 51 rfl w.heap.size 5 is0 _ 1 1 Tryz.underlying51 his hsz0 hsz1 hsz2 rfl (by decide) (.slice (some ⟨g, 0, none⟩) S.length cap) S.length (S.map byteV2) rfl (World.ownsRow.alloc HOWN.out _) ⟨_, 0, none⟩ 1 1 [.int .u8 (bt ⟨l.toArray⟩ i)] rfl rfl (World.news_of_block (heap_alloc_new _ _)) (by intro v hv; simp at hv; subst hv; rfl) (by unfold maxLen; omega) (by omega) (by have := HB.out.size; simp; omega) ?_)
        intro va wa howna hgra hnila hata
        obtain ⟨ga, capa, rfl, hca⟩ : ∃ ga capa, va = .slice (some ⟨ga, 0, none⟩) (S.length + 1) capa ∧ S.length + 1 ≤ capa := by
          rcases howna.2 with ⟨h1, h2⟩ | ⟨g2, cap2, cur, h1, _, _, h2, _⟩
          · exact absurd h2 (by omega)
          · exact ⟨g2, cap2, h1, h2⟩
        have HBa := hid ((HB.out.alloc HB.out.size _).grown hgra (by have := HB.out.size; simp; omega) (fun q hq => ownBase HOWN.out hq.symm))
        have HOa := hid howna
        clear howna hgra hnila hata
        go_wp2_with fail
        go_roundw
        case rel =>
          refine ⟨i + 1, ga, capa, hlt, by go_num, ?_⟩
          rw [htk.out, show slash1 c = [c] from by unfold slash1; rw [HC3.out] at hp; rw [if_neg (by rw [hp]; decide)]]
          have hb2 : byteV2 c = .int .u8 (bt ⟨l.toArray⟩ i) := by unfold byteV2; rw [HC3.out]
          exact ⟨by simp, by simpa [byteV2, HC3.out, hb2] using HOa.out, HBa.out⟩
        case measure => simp [intOf]; omega
    · obtain rfl : i = l.length := by omega
      rw [List.take_of_length_le (Nat.le_refl _)] at HOWN ⊢
      have hcv := conv_row HOWN.out
      go_wp2_with fail
      go_ret
      exact ⟨rfl, HB.out⟩
end Go.Proofs.YtpojmloeadodhaaGreatDoor
/- What a heading's starter calls: the signs at its head, the spaces and signs at its end. -/


namespace Go.Proofs.YtpojmloeadodhaaGreatDoor
open Go.RowKit
set_option maxHeartbeats 1600000 in
/-- The spaces and tabs at a text's end go. -/
theorem trimRight_any (s : ByteArray) (w : World) (hs : s.size ≤ 100000) :
    Calls Tryz.prog 114 #[.string s] w fun e w' => e = .returned (.string ⟨(trimR s.data.toList).toArray⟩) ∧ w = w' := by
  have hb := get_bt
  have HL := hid (Lib.size_eq s)
  go_enter Tryz.func114, Tryz.ntmps114
  go_wp2
  go_loop [3] (fun t3 => TST2 s t3) (fun t3 => (intOf t3).toNat)
  case atStart => exact ⟨s.size, Nat.le_refl _, rfl, fun k c h1 h2 => by
    rw [List.getElem?_eq_none (by rw [← HL.out]; omega)] at h2
    cases h2⟩
  case round =>
    obtain ⟨j, hj, rfl, hst⟩ := hrel
    have HST := hid hst
    clear hst
    have hres : (∀ q c, j = q + 1 → s.data.toList[q]? = some c → isST c = false) → s.extract 0 j = ⟨(trimR s.data.toList).toArray⟩ := by
      intro h
      rw [trimR_of s.data.toList j (by rw [← HL.out]; exact hj) HST.out h, Lib.extract_eq]
      simp
    have HRES := hid hres
    clear hres
    cases j with
    | zero =>
      have hr := hid (HRES.out (fun q c h => by omega))
      go_wp2
      go_ret
      exact ⟨ret_str (by rw [← hr.out]; simp), rfl⟩
    | succ m =>
      have hm : m < s.size := by omega
      obtain ⟨c, hc, hbt⟩ := bt_at s hm
      have HC := hid hc
      have HB := hid hbt
      clear hc hbt
      have stp : isST c = true → ∀ k d, m ≤ k → s.data.toList[k]? = some d → isST d = true := fun hs k d hk hd => by
        rcases Nat.lt_or_ge m k with h1 | h1
        · exact HST.out k d h1 hd
        · obtain rfl : k = m := by omega
          rw [HC.out] at hd; cases hd; exact hs
      have STP := hid stp
      clear stp
      by_cases h32 : bt s m = 32
      · go_wp2
        go_round
        case rel => exact ⟨m, by omega, by go_num, STP.out (isST_of (.inl (HB.out ▸ h32)))⟩
        case measure => simp [intOf]
      by_cases h9 : bt s m = 9
      · go_wp2
        go_round
        case rel => exact ⟨m, by omega, by go_num, STP.out (isST_of (.inr (HB.out ▸ h9)))⟩
        case measure => simp [intOf]
      have b1 : (bt s m == 32) = false := by simpa using h32
      have b2 : (bt s m == 9) = false := by simpa using h9
      have hr := hid (HRES.out (fun q d h hd => by
        obtain rfl : q = m := by omega
        rw [HC.out] at hd; cases hd
        exact isST_not (fun e => h32 (HB.out.trans e)) (fun e => h9 (HB.out.trans e))))
      go_wp2
      go_ret
      exact ⟨ret_str hr.out, rfl⟩
set_option maxRecDepth 20000 in
set_option maxHeartbeats 1600000 in
/-- Signs # at a text's end go: k bytes stay. -/
theorem trimHash_any (s : ByteArray) (k : Nat) (w : World) (hs : s.size ≤ 100000) (hk : k ≤ s.size) (hall : ∀ j, k ≤ j → j < s.size → bt s j = 35) (hx : k = 0 ∨ bt s (k - 1) ≠ 35) :
    Calls Tryz.prog 115 #[.string s, .string ⟨#[35]⟩] w fun e w' => e = .returned (.string (s.extract 0 k)) ∧ ∃ n, w' = w.drewN n := by
  have hb := get_bt s
  have hz35 : ((ByteArray.mk #[35])[0]'(by decide)).toNat = 35 := rfl
  have HALL := hid hall
  have HX := hid hx
  clear hall hx
  go_enter Tryz.func115, Tryz.ntmps115
  go_wp2_with fail
  go_loopw [5] (fun t5 wr => ∃ (n q : Nat), t5 = .int .i64 n ∧ k ≤ n ∧ n ≤ s.size ∧ wr = w.drewN q) (fun t5 _ => (intOf t5).toNat)
  case atStart => exact ⟨s.size, 0, rfl, hk, Nat.le_refl _, rfl⟩
  case round =>
    obtain ⟨n, q, rfl, hkn, hns, rfl⟩ := hrel
    by_cases hlt : k < n
    · have h35 := HALL.out (n - 1) (by omega) (by omega)
      go_wp2_with fail
      refine wp_loop_rounds 2 ?_
      rw [rounds_succ]
      go_wp2_with fail
      go_region
      go_wp2_with fail
      rw [rounds_succ]
      go_wp2_with fail
      go_roundw
      case rel => exact ⟨n - 1, _, by go_num, by omega, by omega, rfl⟩
      case measure => simp [intOf]; omega
    · obtain rfl : k = n := by omega
      rcases Nat.eq_zero_or_pos k with h0 | h0
      · subst h0
        go_wp2_with fail
        go_ret
        exact ⟨rfl, _, rfl⟩
      · have hx35 : bt s (k - 1) ≠ 35 := by
          rcases HX.out with h | h
          · omega
          · exact h
        have f2 : ((35 : Int) == bt s (k - 1)) = false := by
          have : ¬ (35 : Int) = bt s (k - 1) := fun e => hx35 e.symm
          simpa using this
        clear hx35
        go_wp2_with fail
        refine wp_loop_rounds 2 ?_
        rw [rounds_succ]
        go_wp2_with fail
        go_region
        go_wp2_with fail
        rw [rounds_succ]
        go_wp2_with fail
        go_ret
        exact ⟨rfl, _, rfl⟩
/-- One to six signs # and a space ahead. -/
theorem trimHeading_yes (b wb n : Nat) (nl x : Int) (s : ByteArray) (w : World) (h : IsLn w b 0 0 s nl) (hw : Blk w wb 3 #[.int .i64 x]) (hbw : b ≠ wb) (hs : s.size ≤ 100000) (hn1 : 1 ≤ n) (hn6 : n ≤ 6) (hns : n < s.size) (ht : ∀ k, bt s k ≠ 9) (h35 : ∀ j, j < n → bt s j = 35) (h32 : bt s n = 32) :
    Calls Tryz.prog 112 #[.pointer (some ⟨b, 0, none⟩), .pointer (some ⟨wb, 0, none⟩)] w fun e w' => e = .returned (.bool true) ∧ IsLn w' b (n + 1) 0 s nl ∧ Blk w' wb 3 #[.int .i64 n] ∧ Mod (fun k => k = b ∨ k = wb) w w' := by
  have h0 := h.c0
  have h1 := h.c1
  have h2 := h.c2
  have h3 := h.c3
  have h4 := h.c4
  have hlt := Blk.lt h
  have HT := hid ht
  have H35 := hid h35
  have HLN := hid h
  have HWB := hid hw
  have hwl := hw.lt
  clear ht h35 h hw
  go_enter Tryz.func112, Tryz.ntmps112
  go_wp2_with fail
  have hA : Hid (IsLn _ w.heap.size 0 0 s nl) := hid (Blk.new w 87 #[.int .i64 0, .int .i64 (0 : Nat), .int .i64 0, .string s, .int .u8 nl])
  refine (trimSp_any _ 0 0 3 false 0 nl s _ hA.out (by omega) (Nat.zero_le _) HT.out (by omega) (by omega)).mono ?_
  rintro e w2 ⟨j', a1, a2, a3, a4, a5, a6, hm2⟩
  have h350 := H35.out 0 hn1
  have hj0 : j' = 0 := by
    rcases Nat.eq_zero_or_pos j' with h | h
    · exact h
    · have := a4 0 (Nat.le_refl _) h; omega
  subst hj0
  rcases a6 with ⟨rfl, _, hl2⟩ | ⟨_, a7, _⟩
  · have HL2 := hid hl2
    have HB2 := hid ((((Below.refl _ w).alloc (Nat.le_refl _) (.cells #[.int .i64 0, .int .i64 (0 : Nat), .int .i64 0, .string s, .int .u8 nl] 87))).trans (Mod.toBelow hm2 (by simp) (fun k hk e => by omega)))
    clear a4 a5 hl2 hm2 hA
    go_wp2_with fail
    refine (trim_yes _ 0 35 0 nl s w2 HL2.out (by omega) (by omega) h350).mono ?_
    rintro e w3 ⟨rfl, hl3, hm3⟩
    have HL3 := hid hl3
    have HB3 := hid (HB2.out.trans (Mod.toBelow hm3 (B := w.heap.size) HB2.out.size (fun k hk e => by omega)))
    clear hl3 hm3 HL2 HB2
    go_wp2_with fail
    go_loopw [6] (fun t6 wr => ∃ m : Nat, t6 = .int .i64 m ∧ 1 ≤ m ∧ m ≤ n ∧ IsLn wr w.heap.size m 0 s nl ∧ Below w.heap.size w wr) (fun t6 _ => n + 1 - (intOf t6).toNat)
    case atStart => exact ⟨1, rfl, Nat.le_refl _, hn1, HL3.out, HB3.out⟩
    case round =>
      obtain ⟨m, rfl, hm1, hmn, hlm, hbm⟩ := hrel
      have HLM := hid hlm
      have HBM := hid hbm
      clear hlm hbm
      by_cases hlt : m < n
      · go_wp2_with fail
        refine (trim_yes _ m 35 0 nl s wr HLM.out (by omega) (by omega) (H35.out m hlt)).mono ?_
        rintro e w4 ⟨rfl, hl4, hm4⟩
        have HL4 := hid hl4
        have HB4 := hid (HBM.out.trans (Mod.toBelow hm4 (B := w.heap.size) HBM.out.size (fun k hk e => by omega)))
        clear hl4 hm4
        go_wp2_with fail
        go_roundw
        case rel => exact ⟨m + 1, by go_num, by omega, hlt, HL4.out, HB4.out⟩
        case measure => simp [intOf]; omega
      · obtain rfl : n = m := by omega
        by_cases h6 : n = 6
        · have h6' : ¬ (n : Int) < 6 := by omega
          clear h6
          go_wp2_with fail
          have HLX : Hid (IsLn wr w.heap.size n 0 s nl) := hid HLM.out
          have HBX : Hid (Below w.heap.size w wr) := hid (HBM.out)
          refine (trimSp_any _ n 1 1 true 0 nl s wr HLX.out (by omega) (by omega) HT.out (by omega) (by omega)).mono ?_
          rintro e w5 ⟨j2, d1, d2, d3, d4, d5, d6, hm5⟩
          have hj2 : j2 = n + 1 := by
            rcases Nat.lt_or_ge j2 (n + 1) with h | h
            · have : j2 = n := by omega
              rw [this] at d5
              exact absurd h32 (d5 (by omega) hns)
            · omega
          subst hj2
          rcases d6 with ⟨rfl, _, hl5⟩ | ⟨_, a7, _⟩
          · have HB5 := hid (HBX.out.trans (Mod.toBelow hm5 (B := w.heap.size) HBX.out.size (fun k hk e => by omega)))
            have HL5 := hid hl5
            have hb5 : IsLn w5 b 0 0 s nl := HLN.out.mod (S := fun _ => False) (Mod.below' HB5.out) (fun x => x)
            have hw5 : Blk w5 wb 3 #[.int .i64 x] := HWB.out.mod (S := fun _ => False) (Mod.below' HB5.out) (fun x => x)
            have q0 := hl5.c0
            have q1 := hl5.c1
            have q2 := hl5.c2
            have q3 := hl5.c3
            have q4 := hl5.c4
            have z0 := hb5.c0
            have z1 := hb5.c1
            have z2 := hb5.c2
            have z3 := hb5.c3
            have z4 := hb5.c4
            have fz := hb5.free
            have x0 := hw5.at_ 0 rfl
            have fx := hw5.free
            have HBB := hid hb5
            have HWW := hid hw5
            clear d4 d5 hl5 hm5 hb5 hw5
            go_wp2_with fail
            go_ret
            rw [show ((n : Int) + 1) = ((n + 1 : Nat) : Int) from by omega]
            have hb1 := HBB.out.far (p := ⟨wb, 0, none⟩) hbw (.int .i64 n)
            have hbl : IsLn _ b (n + 1) 0 s nl := ln_store hb1 (n + 1) 0 nl s
            have hw1 : Blk _ wb 3 #[.int .i64 n] := HWW.out.set_ 0 (.int .i64 n)
            have hwf := ((((hw1.far (p := ⟨b, 0, none⟩) (fun e => hbw e.symm) (.int .i64 0)).far (p := ⟨b, 1, none⟩) (fun e => hbw e.symm) (.int .i64 ((n + 1 : Nat) : Int))).far (p := ⟨b, 2, none⟩) (fun e => hbw e.symm) (.int .i64 0)).far (p := ⟨b, 3, none⟩) (fun e => hbw e.symm) (.string s)).far (p := ⟨b, 4, none⟩) (fun e => hbw e.symm) (.int .u8 nl)
            have hm0 : Mod (fun k => k = b ∨ k = wb) w w5 := Mod.below HB5.out (fun k h1 h2 => by omega)
            exact ⟨rfl, hbl, hwf, (((((hm0.setCell (p := ⟨wb, 0, none⟩) (.inl (.inr rfl)) _).setCell (p := ⟨b, 0, none⟩) (.inl (.inl rfl)) _).setCell (p := ⟨b, 1, none⟩) (.inl (.inl rfl)) _).setCell (p := ⟨b, 2, none⟩) (.inl (.inl rfl)) _).setCell (p := ⟨b, 3, none⟩) (.inl (.inl rfl)) _).setCell (p := ⟨b, 4, none⟩) (.inl (.inl rfl)) _⟩
          · omega
        · have h6' : (n : Int) < 6 := by omega
          go_wp2_with fail
          refine (trim_no _ n 35 0 nl s wr HLM.out (by omega) (.inr (by rw [h32]; decide))).mono ?_
          rintro e w4 ⟨rfl, n4, rfl⟩
          have HLX : Hid (IsLn (wr.drewN n4) w.heap.size n 0 s nl) := hid HLM.out
          have HBX : Hid (Below w.heap.size w (wr.drewN n4)) := hid (below_drewN HBM.out n4)
          go_wp2_with fail
          refine (trimSp_any _ n 1 1 true 0 nl s (wr.drewN n4) HLX.out (by omega) (by omega) HT.out (by omega) (by omega)).mono ?_
          rintro e w5 ⟨j2, d1, d2, d3, d4, d5, d6, hm5⟩
          have hj2 : j2 = n + 1 := by
            rcases Nat.lt_or_ge j2 (n + 1) with h | h
            · have : j2 = n := by omega
              rw [this] at d5
              exact absurd h32 (d5 (by omega) hns)
            · omega
          subst hj2
          rcases d6 with ⟨rfl, _, hl5⟩ | ⟨_, a7, _⟩
          · have HB5 := hid (HBX.out.trans (Mod.toBelow hm5 (B := w.heap.size) HBX.out.size (fun k hk e => by omega)))
            have HL5 := hid hl5
            have hb5 : IsLn w5 b 0 0 s nl := HLN.out.mod (S := fun _ => False) (Mod.below' HB5.out) (fun x => x)
            have hw5 : Blk w5 wb 3 #[.int .i64 x] := HWB.out.mod (S := fun _ => False) (Mod.below' HB5.out) (fun x => x)
            have q0 := hl5.c0
            have q1 := hl5.c1
            have q2 := hl5.c2
            have q3 := hl5.c3
            have q4 := hl5.c4
            have z0 := hb5.c0
            have z1 := hb5.c1
            have z2 := hb5.c2
            have z3 := hb5.c3
            have z4 := hb5.c4
            have fz := hb5.free
            have x0 := hw5.at_ 0 rfl
            have fx := hw5.free
            have HBB := hid hb5
            have HWW := hid hw5
            clear d4 d5 hl5 hm5 hb5 hw5
            go_wp2_with fail
            go_ret
            rw [show ((n : Int) + 1) = ((n + 1 : Nat) : Int) from by omega]
            have hb1 := HBB.out.far (p := ⟨wb, 0, none⟩) hbw (.int .i64 n)
            have hbl : IsLn _ b (n + 1) 0 s nl := ln_store hb1 (n + 1) 0 nl s
            have hw1 : Blk _ wb 3 #[.int .i64 n] := HWW.out.set_ 0 (.int .i64 n)
            have hwf := ((((hw1.far (p := ⟨b, 0, none⟩) (fun e => hbw e.symm) (.int .i64 0)).far (p := ⟨b, 1, none⟩) (fun e => hbw e.symm) (.int .i64 ((n + 1 : Nat) : Int))).far (p := ⟨b, 2, none⟩) (fun e => hbw e.symm) (.int .i64 0)).far (p := ⟨b, 3, none⟩) (fun e => hbw e.symm) (.string s)).far (p := ⟨b, 4, none⟩) (fun e => hbw e.symm) (.int .u8 nl)
            have hm0 : Mod (fun k => k = b ∨ k = wb) w w5 := Mod.below HB5.out (fun k h1 h2 => by omega)
            exact ⟨rfl, hbl, hwf, (((((hm0.setCell (p := ⟨wb, 0, none⟩) (.inl (.inr rfl)) _).setCell (p := ⟨b, 0, none⟩) (.inl (.inl rfl)) _).setCell (p := ⟨b, 1, none⟩) (.inl (.inl rfl)) _).setCell (p := ⟨b, 2, none⟩) (.inl (.inl rfl)) _).setCell (p := ⟨b, 3, none⟩) (.inl (.inl rfl)) _).setCell (p := ⟨b, 4, none⟩) (.inl (.inl rfl)) _⟩
          · omega
  · omega
end Go.Proofs.YtpojmloeadodhaaGreatDoor
/- The starter of thematic breaks takes its line. -/

namespace Go.Proofs.YtpojmloeadodhaaGreatDoor
open Go.RowKit
theorem own_lt {w : World} {base : Nat} {e : TypeId} {size n : Nat} {v : Value} {xs : List Value} (h : w.ownsRow base e size v n xs) {k : Nat} (hk : some k = v.ownBlock) : k < w.heap.size := by
  rcases h.2 with ⟨rfl, _⟩ | ⟨g', cap, cur, rfl, _, hh, _⟩
  · simp [Value.ownBlock] at hk
  · simp only [Value.ownBlock, Option.some.injEq] at hk
    subst hk
    exact Blk.lt hh
set_option maxRecDepth 20000 in
set_option maxHeartbeats 4000000 in
theorem newHR_yes (B g i j : Nat) (r : PSr) (es : List Ent) (e0 : Ent) (bs : List Value) (c tb nl : Int) (s : ByteArray) (w : World) (hB : B ≤ w.heap.size) (hps : IsPS w g r) (hst : IsStack w B r.stack (es ++ [e0])) (hd : r.lineDepth = es.length) (hn : es.length ≤ 1000000)
    (hin : w.ownsRow B 55 1 e0.inner.v e0.inner.n bs) (hm : e0.inner.n ≤ 1000000)
    (hs : s.size ≤ 140737488355328) (hij : i ≤ j) (hj3 : j ≤ i + 3) (hsp : ∀ k, i ≤ k → k < j → bt s k = 32) (hjs : j < s.size) (hc : bt s j = c) (hcc : c = 42 ∨ c = 45 ∨ c = 95)
    (hall : ∀ k, j ≤ k → k < s.size → bt s k = c ∨ bt s k = 32) (ht : ∀ k, bt s k ≠ 9) (h3 : 3 ≤ cntB s c j s.size) :
    Calls Tryz.prog 73 #[.pointer (some ⟨g, 0, none⟩), lnV i tb s nl] w fun e w' => e = .returned (.tuple #[lnV 0 0 ⟨#[]⟩ 0, .bool true]) ∧ HRP B g r es e0 bs (s.extract i s.size) w w' ∧ w.heap.size ≤ w'.heap.size ∧ ∀ lb cs, Blk w lb 87 cs → Blk w' lb 87 cs := by
  have HR := hid (isHR_yes i j c tb nl s ((w.alloc (.cells #[.int .i64 0, .int .i64 i, .int .i64 tb, .string s, .int .u8 nl] 87)).alloc (.cells #[.int .i64 0, .int .i64 0, .int .i64 0, .string ⟨#[]⟩, .int .u8 0] 87)) hs hij hj3 hsp hjs hc hcc hall ht h3)
  have his : i ≤ s.size := by omega
  clear hsp hjs hc hcc hall ht h3
  have HPS := hid hps
  have HST := hid hst
  have HIN := hid hin
  clear hps hst hin
  go_enter Tryz.func73, Tryz.ntmps73
  go_wp2_with fail
  refine HR.out.mono ?_
  rintro e w1 ⟨rfl, hb⟩
  have hm1 := Mod.below' (S := fun _ => False) hb
  have hps1 : IsPS w1 g r := ((HPS.out.alloc _).alloc _).mod (S := fun _ => False) hm1 (fun h => h)
  have hst1 : IsStack w1 B r.stack (es ++ [e0]) := ((HST.out.alloc _).alloc _).mod (S := fun _ => False) hm1 (fun _ _ h => h)
  have hin1 : w1.ownsRow B 55 1 e0.inner.v e0.inner.n bs := own_mod (S := fun _ => False) (World.ownsRow.alloc (World.ownsRow.alloc HIN.out _) _) hm1 (fun _ _ h => h)
  have hl1 : IsLn w1 w.heap.size i tb s nl := (Blk.alloc (Blk.new' rfl) _ : Blk _ w.heap.size 87 (lnC i tb s nl)).mod (S := fun _ => False) hm1 (fun h => h)
  have hr1 : Blk w1 (w.heap.size + 1) 87 #[.int .i64 0, .int .i64 0, .int .i64 0, .string ⟨#[]⟩, .int .u8 0] := (Blk.new' (by simp) : Blk _ (w.heap.size + 1) 87 #[.int .i64 0, .int .i64 0, .int .i64 0, .string ⟨#[]⟩, .int .u8 0]).mod (S := fun _ => False) hm1 (fun h => h)
  have hbel : Below w.heap.size w w1 := (((Below.refl _ _).alloc (Nat.le_refl _) _).alloc (by simp) _).trans (hb.mono (by simp; omega))
  have hB1 : B ≤ w1.heap.size := Nat.le_trans hB hbel.size
  have hlt1 := Blk.lt hr1
  have c3 := hps1.c3
  have HP1 := hid hps1
  have HS1 := hid hst1
  have HI1 := hid hin1
  have HL1 := hid hl1
  have HR1 := hid hr1
  have HB1 := hid hbel
  clear hm1 hps1 hst1 hin1 hl1 hr1 hbel hb HR
  go_wp2_with fail
  go_region_with (first
    | (go_at_call 113; refine (string_any w.heap.size i tb nl s _ ?_ hs his).mono ?_; (· exact HL1.out); rintro e w2 ⟨rfl, n2, rfl⟩)
    | (go_at_call 118; refine (doneBlock_top B g r es e0 _ _ _ bs ?_ ?_ ?_ hd hn ?_ hm).mono ?_; (· simp; omega); (· exact IsPS.alloc HP1.out _); (· exact IsStack.alloc HS1.out _); (· exact World.ownsRow.alloc HI1.out _); rintro e w3 ⟨rfl, hdone⟩))
  all_goals
    obtain ⟨v, hv, hps3, hst3, hin3, hmod⟩ := hdone
    have hnr := own_ne HS1.out.2 HR1.out (by decide)
    have hnr2 := own_ne HI1.out HR1.out (by decide)
    have hr3 := Blk.mod (S := fun k => some k = r.stack.v.ownBlock ∨ some k = e0.inner.v.ownBlock) (Blk.alloc (Blk.drewN HR1.out _) (.cells #[.int .i64 r.lineno, .int .i64 r.lineno, .string (s.extract i s.size)] 226)) hmod (fun h => Or.elim h hnr hnr2)
    have ht3 : Blk w3 w1.heap.size 226 #[.int .i64 r.lineno, .int .i64 r.lineno, .string (s.extract i s.size)] := Blk.mod (S := fun k => some k = r.stack.v.ownBlock ∨ some k = e0.inner.v.ownBlock) (Blk.new' (w := World.drewN w1 _) rfl) hmod (fun h => Or.elim h (fun e => absurd (own_lt HS1.out.2 e) (by omega)) (fun e => absurd (own_lt HI1.out e) (by omega)))
    have hm3 : Mod (fun k => some k = r.stack.v.ownBlock ∨ some k = e0.inner.v.ownBlock) w w3 := Mod.trans (by (repeat (with_reducible (first | refine Mod.alloc ?_ _ | refine Mod.drewN ?_ _ | refine Mod.drew ?_))); exact Mod.below' HB1.out) hmod (fun _ _ h => h)
    have r0 := hr3.at_ 0 rfl
    have r1 := hr3.at_ 1 rfl
    have r2 := hr3.at_ 2 rfl
    have r3 := hr3.at_ 3 rfl
    have r4 := hr3.at_ 4 rfl
    have fr := hr3.free
    have HR3 := hid hr3
    have HM3 := hid hm3
    have HT3 := hid ht3
    have HP3 := hid hps3
    have HS3 := hid hst3
    have HI3 := hid hin3
    clear hr3 hm3 ht3 hps3 hst3 hin3 hmod hnr hnr2
    go_wp2_with fail
    have hln := hid (line_zero HR3.out)
    have hmy : Hid (Mod (fun k => k = w.heap.size + 1) w3 _) := hid ((((((Mod.refl (fun k => k = w.heap.size + 1) w3).setCell (p := ⟨w.heap.size + 1, 0, none⟩) (.inl rfl) (.int .i64 0)).setCell (p := ⟨w.heap.size + 1, 1, none⟩) (.inl rfl) (.int .i64 0)).setCell (p := ⟨w.heap.size + 1, 2, none⟩) (.inl rfl) (.int .i64 0)).setCell (p := ⟨w.heap.size + 1, 3, none⟩) (.inl rfl) (.string ⟨#[]⟩)).setCell (p := ⟨w.heap.size + 1, 4, none⟩) (.inl rfl) (.int .u8 0))
    generalize World.setCell _ ⟨w.heap.size + 1, 4, none⟩ _ = wy at hln hmy ⊢
    clear r0 r1 r2 r3 r4 fr
    have hl4 := hln.out
    have k0 := hl4.at_ 0 rfl
    have k1 := hl4.at_ 1 rfl
    have k2 := hl4.at_ 2 rfl
    have k3 := hl4.at_ 3 rfl
    have k4 := hl4.at_ 4 rfl
    clear hl4
    refine bodyPost_ret (by simp [results, Tryz.results73, go_sem, k0, k1, k2, k3, k4]; try rfl) rfl ?_
    have hmf : Mod (fun k => some k = r.stack.v.ownBlock ∨ some k = e0.inner.v.ownBlock) w wy := HM3.out.trans hmy.out (fun k hk e => by omega)
    have hp9 : g ≠ w.heap.size + 1 := Blk.ne_ HP3.out HR3.out (by decide)
    refine ⟨rfl, ⟨w1.heap.size, HB1.out.size, HT3.out.mod hmy.out (fun e => by omega), v, hv, HP3.out.mod hmy.out hp9, HS3.out.mod hmy.out (fun k hk e => own_ne HS3.out.2 HR3.out (by decide) (by rw [hk, e])), own_mod HI3.out hmy.out (fun k hk e => own_ne HI3.out HR3.out (by decide) (by rw [hk, e])), hmf⟩, hmf.size, fun lb cs h => h.mod hmf (fun e => Or.elim e (own_ne HST.out.2 h (by decide)) (own_ne HIN.out h (by decide)))⟩
end Go.Proofs.YtpojmloeadodhaaGreatDoor
