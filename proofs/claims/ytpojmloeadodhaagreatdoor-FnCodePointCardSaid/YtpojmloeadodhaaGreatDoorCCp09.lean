/- Texts of this proof, joined: No list item begins with digits that no full stop and no bracket follow, Texts of words, spaces and hyphens: a paragraph each, and read as they are, A text with one inline sign in it: how it is read, and what it prints. -/
import Derived.Test.YtpojmloeadodhaaGreatDoorCCp07
import Derived.Deep.DeepCutAuto
import Derived.Test.YtpojmloeadodhaaGreatDoorCCp08
import Derived.Lib.Atoi
import Derived.Test.YtpojmloeadodhaaGreatDoorCCp04
import Derived.Lib.ConvBytes
import Derived.Laws.Closers25
import Derived.Laws.Closers25b
import Derived.Shelf.Strconv.Atoi
import Derived.Ground.NamesProg
import Derived.Test.YtpojmloeadodhaaGreatDoorProg
import Derived.Lib.AtoiErrMem
import Derived.Laws.Runes
/- No list item begins with digits that no full stop and no bracket follow. -/


namespace Go.Proofs.YtpojmloeadodhaaGreatDoor
open Go.RowKit
def DigR (b : Nat) (s : ByteArray) (nl : Int) (w0 : World) (t9 t10 : Value) (wr : World) : Prop :=
  ∃ (j : Nat) (x : Int), t9 = .int .i64 x ∧ t10 = .int .i64 j ∧ j ≤ s.size ∧ j ≤ 9 ∧ (∀ k, k < j → 48 ≤ bt s k ∧ bt s k ≤ 57) ∧ IsLn wr b 0 0 s nl ∧ Below w0.heap.size w0 wr
set_option maxRecDepth 20000 in
set_option maxHeartbeats 4000000 in
theorem startListItem_dig (g b : Nat) (nl : Int) (s : ByteArray) (w : World) (h : IsLn w b 0 0 s nl) (hs : s.size ≤ 100000) (ht : ∀ k, bt s k ≠ 9) (h0 : bt s 0 = 48 ∨ bt s 0 = 49 ∨ bt s 0 = 57) (hq : ∀ k, (∀ j, j < k → 48 ≤ bt s j ∧ bt s j ≤ 57) → bt s k ≠ 46 ∧ bt s k ≠ 41) :
    Calls Tryz.prog 126 #[.pointer (some ⟨g, 0, none⟩), .pointer (some ⟨b, 0, none⟩)] w fun e w' => e = .returned (.bool false) ∧ Below w.heap.size w w' := by
  have hz0 := h.c0
  have h1 := h.c1
  have h2 := h.c2
  have h3 := h.c3
  have h4 := h.c4
  have hlt := Blk.lt h
  have hpos : 0 < s.size := by
    rcases Nat.eq_zero_or_pos s.size with he | he
    · unfold bt at h0; rw [dif_neg (by omega)] at h0; omega
    · exact he
  have HT := hid ht
  have HQ := hid hq
  clear ht hq h
  go_enter Tryz.func126, Tryz.ntmps126
  go_wp2_with fail
  go_step3
  go_wp2_with fail
  have hln : Hid (IsLn _ (w.heap.size + 1) 0 0 s nl) := hid (Blk.new' (w := World.alloc w (.cells #[.pointer (some ⟨g, 0, none⟩)] 97)) (t := 87) (cs := #[.int .i64 0, .int .i64 (0 : Nat), .int .i64 0, .string s, .int .u8 nl]) (by simp))
  have hbl : Hid (Below w.heap.size w (World.alloc _ _)) := hid (((Below.refl _ w).alloc (Nat.le_refl _) (.cells #[.pointer (some ⟨g, 0, none⟩)] 97)).alloc (by simp) (.cells #[.int .i64 0, .int .i64 (0 : Nat), .int .i64 0, .string s, .int .u8 nl] 87))
  refine wp_loop_rounds 1 ?_
  rw [rounds_succ]
  go_wp2_with fail
  refine (trimSp_any _ 0 1 1 false 0 nl s _ hln.out (by omega) (Nat.zero_le _) HT.out (by omega) (by omega)).mono ?_
  rintro e w2 ⟨j', a1, a2, a3, a4, a5, a6, hm2⟩
  have hj0 : j' = 0 := by
    rcases Nat.eq_zero_or_pos j' with h | h
    · exact h
    · have := a4 0 (Nat.le_refl _) h; omega
  rcases a6 with ⟨_, a7, _⟩ | ⟨rfl, _, _, _, hl2⟩
  · exfalso
    rcases a7 with h1 | h1 | h1
    · omega
    · omega
    · cases h1.1
  · have HL2 := hid hl2
    have HB2 := hid (hbl.out.trans (Mod.toBelow hm2 (by simp; omega) (fun k hk h => by omega)))
    clear a4 a5 hl2 hln hbl hz0 h1 h2 h3 h4 hm2
    go_wp2_with fail
    refine (peek_any _ 0 0 nl s _ HL2.out (by omega)).mono ?_
    rintro e w3 ⟨rfl, n3, rfl⟩
    have HL3 : Hid (IsLn (w2.drewN n3) (w.heap.size + 1) 0 0 s nl) := hid HL2.out
    have HB3 : Hid (Below w.heap.size w (w2.drewN n3)) := hid (below_drewN HB2.out n3)
    clear HL2 HB2
    generalize w2.drewN n3 = w4 at HL3 HB3 ⊢
    have d45 : (bt s 0 == 45) = false := by have : bt s 0 ≠ 45 := by omega
                                            simpa using this
    have d42 : (bt s 0 == 42) = false := by have : bt s 0 ≠ 42 := by omega
                                            simpa using this
    have d43 : (bt s 0 == 43) = false := by have : bt s 0 ≠ 43 := by omega
                                            simpa using this
    have hb := get_bt s
    have H0 := hid h0
    have b0 := HL3.out.c0
    have b1 := HL3.out.c1
    have b2 := HL3.out.c2
    have b3 := HL3.out.c3
    have b4 := HL3.out.c4
    rcases h0 with h0 | h0 | h0
    all_goals
      go_wp2_with fail
      go_step3
      go_wp2_with fail
      clear d45 d42 d43 h0
      go_loopw [9, 10, 11] (fun t9 t10 _ wr => DigR (w.heap.size + 1) s nl w t9 t10 wr) (fun _ t10 _ _ => s.size + 1 - (intOf t10).toNat)
      case atStart => exact ⟨0, 0, rfl, rfl, Nat.zero_le _, Nat.zero_le _, fun k hk => by omega, HL3.out, HB3.out⟩
      case round =>
        obtain ⟨j, x, rfl, rfl, hj, hj9, hd, hl, hbel⟩ := hrel
        have HL := hid hl
        have HB := hid hbel
        have HDD := hid hd
        clear b0 b1 b2 b3 b4
        have b0 := hl.c0
        have b1 := hl.c1
        have b2 := hl.c2
        have b3 := hl.c3
        have b4 := hl.c4
        clear hl hbel hd
        obtain ⟨n46, n41⟩ := HQ.out j HDD.out
        have e46 : (bt s j == 46) = false := by simpa using n46
        have e41 : (bt s j == 41) = false := by simpa using n41
        by_cases hlt : j < s.size
        · by_cases hlo : bt s j < 48
          · go_wp2_with fail
            all_goals (try rw [Exit.noGoto_ret])
            go_ret
            exact ⟨rfl, HB.out⟩
          · by_cases hhi : 57 < bt s j
            · go_wp2_with fail
              all_goals (try rw [Exit.noGoto_ret])
              go_ret
              exact ⟨rfl, HB.out⟩
            · by_cases h9 : 9 ≤ j
              · go_wp2_with fail
                all_goals (try rw [Exit.noGoto_ret])
                go_ret
                exact ⟨rfl, HB.out⟩
              · go_wp2_with fail
                go_roundw
                case rel => exact ⟨j + 1, _, rfl, by go_num, hlt, by omega, fun k hk => by
                  rcases Nat.lt_or_ge k j with h | h
                  · exact HDD.out k h
                  · obtain rfl : k = j := by omega
                    omega, HL.out, HB.out⟩
                case measure => simp [intOf]; omega
        · go_wp2_with fail
          all_goals (try rw [Exit.noGoto_ret])
          go_ret
          exact ⟨rfl, HB.out⟩
end Go.Proofs.YtpojmloeadodhaaGreatDoor
/- Texts of words, spaces and hyphens: a paragraph each, and read as they are. -/


namespace Go.Proofs.YtpojmloeadodhaaGreatDoor
open Go.RowKit
/-- The letters and digits of the laws' words. -/
def wcs : List UInt8 := [97, 98, 122, 48, 49, 57]
def wcs2 : List UInt8 := wcs ++ [32, 45]
theorem bt_mem (t : List UInt8) (k : Nat) (P : Int → Prop) (h0 : P 0) (h : ∀ c ∈ t, P (c.toNat : Int)) : P (bt ⟨t.toArray⟩ k) := by
  rw [bt_list]
  cases hk : t[k]? with
  | none => exact h0
  | some y => exact h y (List.mem_of_getElem? hk)
theorem bt_some {t : List UInt8} {k : Nat} {c : UInt8} (h : t[k]? = some c) : bt ⟨t.toArray⟩ k = (c.toNat : Int) := by rw [bt_list, h]
theorem bt_get {t : List UInt8} {k : Nat} (h : k < t.length) : ∃ c, t[k]? = some c ∧ c ∈ t ∧ bt ⟨t.toArray⟩ k = (c.toNat : Int) :=
  ⟨t[k], List.getElem?_eq_getElem h, List.getElem_mem h, bt_some (List.getElem?_eq_getElem h)⟩
theorem isWord_line (c0 : UInt8) (r : List UInt8) (h0 : c0 ∈ wcs) (h : ∀ c ∈ c0 :: r, c ∈ wcs2) (hl : (c0 :: r).length ≤ 100000) : ParLine ⟨(c0 :: r).toArray⟩ := by
  have all : ∀ (P : Int → Prop), P 0 → (∀ c ∈ wcs2, P (c.toNat : Int)) → ∀ k, P (bt ⟨(c0 :: r).toArray⟩ k) := fun P hp hc k => bt_mem _ k P hp (fun c hm => hc c (h c hm))
  have hb : bt ⟨(c0 :: r).toArray⟩ 0 = (c0.toNat : Int) := bt_some rfl
  have hsz : (ByteArray.mk (c0 :: r).toArray).size ≤ 100000 := by rw [sz_mk]; exact hl
  have htab := all (fun z => z ≠ 9) (by decide) (by decide)
  have first : ∀ (P : Int → Prop), (∀ c ∈ wcs, P (c.toNat : Int)) → P (bt ⟨(c0 :: r).toArray⟩ 0) := fun P hc => by rw [hb]; exact hc c0 h0
  have h32 := first (fun z => z ≠ 32) (by decide)
  refine { size := hsz, pos := by rw [sz_mk]; simp, tab := htab, q := fun k _ => all (fun z => z ≠ 62 ∧ z ≠ 35) (by decide) (by decide) k, h32 := h32, hr := first (fun z => z ≠ 42 ∧ z ≠ 45 ∧ z ≠ 95) (by decide), lt_ := first (fun z => z ≠ 60) (by decide), fence := first (fun z => z ≠ 126) (by decide), tick := first (fun z => z ≠ 96) (by decide), item := ?_ }
  intro g b nl w hw
  by_cases hd : bt ⟨(c0 :: r).toArray⟩ 0 = 48 ∨ bt ⟨(c0 :: r).toArray⟩ 0 = 49 ∨ bt ⟨(c0 :: r).toArray⟩ 0 = 57
  · exact startListItem_dig g b nl _ w hw hsz htab hd (fun k _ => all (fun z => z ≠ 46 ∧ z ≠ 41) (by decide) (by decide) k)
  · refine startListItem_no g b 0 0 nl _ w hw (by omega) (Nat.zero_le _) htab (fun k hk => ?_)
    rw [reach0 h32 hk]
    have := first (fun z => z = 48 ∨ z = 49 ∨ z = 57 ∨ NoItem z) (by unfold NoItem; decide)
    rcases this with e | e | e | e
    · exact absurd (.inl e) hd
    · exact absurd (.inr (.inl e)) hd
    · exact absurd (.inr (.inr e)) hd
    · exact e
theorem esc_self (l : List UInt8) (h : ∀ c ∈ l, c ≠ 34 ∧ c ≠ 38 ∧ c ≠ 60 ∧ c ≠ 62) : esc l = l := by
  induction l with
  | nil => rfl
  | cons a t ih =>
    have h1 := h a (List.mem_cons_self ..)
    have h2 := ih (fun c hc => h c (List.mem_cons_of_mem _ hc))
    unfold esc at h2 ⊢
    rw [List.flatMap_cons, h2]
    unfold esc1
    rw [if_neg h1.1, if_neg h1.2.1, if_neg h1.2.2.1, if_neg h1.2.2.2]
    rfl
theorem trim_self (l : List UInt8) (h0 : ∀ c, l[0]? = some c → c ≠ 32 ∧ c ≠ 9) (h1 : ∀ c, l.getLast? = some c → c ≠ 32 ∧ c ≠ 9) : trimR (trimL l) = l := by
  rw [trimL_self h0]
  unfold trimR
  have : l.reverse.dropWhile isST = l.reverse := by
    cases hr : l.reverse with
    | nil => rfl
    | cons a t =>
      have hl : l.getLast? = some a := by
        rw [← List.head?_reverse, hr]; rfl
      obtain ⟨q1, q2⟩ := h1 a hl
      rw [List.dropWhile_cons, if_neg]
      unfold isST
      simp [q1, q2]
  rw [this, List.reverse_reverse]
theorem piece_all (t : List UInt8) (h : 0 < t.length) : pieceK ⟨t.toArray⟩ 0 (ByteArray.mk t.toArray).size = [plainK t] := by
  unfold pieceK
  rw [sz_mk, if_pos h]
  simp
/-- What a list of plain texts prints. -/
def outP (k : Kind) : List UInt8 := match plainOf k with
  | some l => esc l
  | none => []
theorem outP_plain (l : List UInt8) : outP (plainK l) = esc l := by unfold outP; rw [plainOf_plain]
/-- A text without signs is read as it is. -/
theorem inlC_quiet (o : Opt) (t : List UInt8) (ha : o.auto_ = false) (hl : t.length ≤ 100000) (hp : 0 < t.length) (htr : trimR (trimL t) = t) (hq : ∀ (g : Nat), ∀ c ∈ t, parF o g (c.toNat : Int) = none ∧ c ≠ 96) : InlC o t (esc t) := by
  refine inlC_of o t (esc t) (fun _ em tk _ ks => em = 0 ∧ tk = false ∧ ks = []) (fun ks => ks = [plainK t]) ha hl htr (fun g r w hps hpar hne _ => ?_) (fun ks hF _ => ?_)
  · refine { start := ⟨rfl, rfl, rfl⟩, fin := ?_, quiet := ?_, tick := ?_, call := ?_ }
    · rintro em tk bk ks ⟨rfl, rfl, rfl⟩
      exact piece_all t hp
    · intro i em tk bk ks h _ _ _
      exact h
    · intro i em tk bk ks _ _ hi h96 _
      rw [sz_mk] at hi
      obtain ⟨c, _, h2, h3⟩ := bt_get hi
      rw [h3] at h96
      exact absurd (UInt8.toNat_inj.1 (by rw [show (96 : UInt8).toNat = 96 from rfl]; omega)) (hq 0 c h2).2
    · intro i em tk bk ks f rv _ _ hi hpf
      rw [sz_mk] at hi
      obtain ⟨c, _, h2, h3⟩ := bt_get hi
      rw [h3, (hq g c h2).1] at hpf
      cases hpf
  · subst hF
    refine ⟨by simp, by simp [plainOf_plain]; exact hl, outP, outP_plain, fun k hk hn => ?_, by simp [outP_plain]⟩
    simp only [List.mem_cons, List.not_mem_nil, or_false] at hk
    exact absurd hk (hn t)
end Go.Proofs.YtpojmloeadodhaaGreatDoor
/- A text with one inline sign in it: how it is read, and what it prints. -/

namespace Go.Proofs.YtpojmloeadodhaaGreatDoor
open Go.RowKit
def pc (p : List UInt8) : List Kind := if 0 < p.length then [plainK p] else []
theorem pieceK_pre (p q : List UInt8) : pieceK ⟨(p ++ q).toArray⟩ 0 p.length = pc p := by
  unfold pieceK pc
  split
  · simp
  · rfl
theorem pieceK_suf (p q : List UInt8) : pieceK ⟨(p ++ q).toArray⟩ p.length (ByteArray.mk (p ++ q).toArray).size = pc q := by
  unfold pieceK pc
  rw [sz_mk]
  by_cases h : 0 < q.length
  · rw [if_pos (by rw [List.length_append]; omega), if_pos h]
    simp [List.take_of_length_le]
  · rw [if_neg (by rw [List.length_append]; omega), if_neg h]
/-- What the list prints where all that is no plain text prints out. -/
def outX (out : List UInt8) (k : Kind) : List UInt8 := match plainOf k with
  | some l => esc l
  | none => out
theorem outX_plain (out l : List UInt8) : outX out (plainK l) = esc l := by unfold outX; rw [plainOf_plain]
theorem pc_out (out p : List UInt8) : (pc p).flatMap (outX out) = esc p := by
  unfold pc
  split
  · simp [outX_plain]
  · obtain rfl : p = [] := List.length_eq_zero_iff.1 (by omega)
    rfl
theorem pc_plain (p : List UInt8) : ((pc p).filterMap plainOf).flatten.length = p.length := by
  unfold pc
  split
  · simp [plainOf_plain]
  · simp
    omega
theorem pc_mem {p : List UInt8} {k : Kind} (h : k ∈ pc p) : k = plainK p := by
  unfold pc at h
  split at h
  · simpa using h
  · cases h
set_option maxHeartbeats 800000 in
theorem inlC_one (o : Opt) (p r q out : List UInt8) (k : Kind) (f : FuncId) (ha : o.auto_ = false) (hl : (p ++ r ++ q).length ≤ 10000) (hr : 0 < r.length) (htr : trimR (trimL (p ++ r ++ q)) = p ++ r ++ q)
    (hp : ∀ (g : Nat), ∀ c ∈ p, parF o g (c.toNat : Int) = none ∧ c ≠ 96) (hq : ∀ (g : Nat), ∀ c ∈ q, parF o g (c.toNat : Int) = none ∧ c ≠ 96)
    (hpf : ∀ (g : Nat), parF o g (bt ⟨(p ++ r ++ q).toArray⟩ p.length) = some (f, #[])) (h96 : bt ⟨(p ++ r ++ q).toArray⟩ p.length ≠ 96)
    (hks : k.Sure) (hko : (∃ l, k = plainK l ∧ out = esc l ∧ l.length ≤ 10000) ∨ (plainOf k = none ∧ KPrints k out))
    (hcall : ∀ (g : Nat) (W : World), Calls Tryz.prog f #[.pointer (some ⟨g, 0, none⟩), .string ⟨(p ++ r ++ q).toArray⟩, .int .i64 p.length] W fun e w' => ∃ v, e = .returned (.tuple #[v, .int .i64 p.length, .int .i64 ((p.length + r.length : Nat) : Int), .bool true]) ∧ IsItem w' W.heap.size v k ∧ Below W.heap.size W w') :
    InlC o (p ++ r ++ q) (esc p ++ out ++ esc q) := by
  have hlen : (p ++ r ++ q).length = p.length + r.length + q.length := by rw [List.length_append, List.length_append]
  have hpiece : pieceK ⟨(p ++ r ++ q).toArray⟩ 0 p.length = pc p := by
    rw [List.append_assoc]
    exact pieceK_pre _ _
  have hpiece2 : pieceK ⟨(p ++ r ++ q).toArray⟩ (p.length + r.length) (ByteArray.mk (p ++ r ++ q).toArray).size = pc q := by
    have := pieceK_suf (p ++ r) q
    rw [List.length_append] at this
    exact this
  have atp : ∀ i, i < p.length → ∃ c ∈ p, bt ⟨(p ++ r ++ q).toArray⟩ i = (c.toNat : Int) := fun i hi =>
    ⟨p[i], List.getElem_mem hi, bt_some (by rw [List.append_assoc, List.getElem?_append_left hi]; exact List.getElem?_eq_getElem hi)⟩
  have atq : ∀ i, p.length + r.length ≤ i → i < p.length + r.length + q.length → ∃ c ∈ q, bt ⟨(p ++ r ++ q).toArray⟩ i = (c.toNat : Int) := fun i h1 h2 => by
    have h3 : i - (p.length + r.length) < q.length := by omega
    refine ⟨q[i - (p.length + r.length)], List.getElem_mem h3, bt_some ?_⟩
    rw [List.getElem?_append_right (by rw [List.length_append]; omega), List.length_append]
    exact List.getElem?_eq_getElem h3
  have hne96 : ∀ (c : UInt8), c ≠ 96 → (c.toNat : Int) ≠ 96 := fun c hc e => hc (UInt8.toNat_inj.1 (by show c.toNat = 96; omega))
  have houtk : outX out k = out := by
    rcases hko with ⟨l, rfl, rfl, _⟩ | ⟨h1, _⟩
    · exact outX_plain _ _
    · unfold outX; rw [h1]
  have hplk : (([k] : List Kind).filterMap plainOf).flatten.length ≤ 10000 := by
    rcases hko with ⟨l, rfl, _, hl⟩ | ⟨h1, _⟩
    · simp [plainOf_plain]; exact hl
    · simp [h1]
  refine inlC_of o _ _ (fun i em tk _ ks => tk = false ∧ ((em = 0 ∧ ks = [] ∧ i ≤ p.length) ∨ (em = p.length + r.length ∧ ks = pc p ++ [k] ∧ em ≤ i))) (fun ks => ks = pc p ++ [k] ++ pc q) ha (by omega) htr (fun g r' w hps hpar hne _ => ?_) (fun ks hF _ => ?_)
  · refine { start := ⟨rfl, .inl ⟨rfl, rfl, Nat.zero_le _⟩⟩, fin := ?_, quiet := ?_, tick := ?_, call := ?_ }
    · rintro em tk bk ks ⟨_, ⟨rfl, rfl, h⟩ | ⟨rfl, rfl, h⟩⟩
      · rw [sz_mk] at h; omega
      · rw [hpiece2]
    · rintro i em tk bk ks ⟨h0, h⟩ _ hi hn
      rw [sz_mk] at hi
      refine ⟨h0, ?_⟩
      rcases h with ⟨rfl, rfl, h⟩ | ⟨rfl, rfl, h⟩
      · refine .inl ⟨rfl, rfl, ?_⟩
        rcases Nat.lt_or_ge i p.length with h2 | h2
        · omega
        · obtain rfl : i = p.length := by omega
          rw [hpf g] at hn
          cases hn
      · exact .inr ⟨rfl, rfl, by omega⟩
    · rintro i em tk bk ks ⟨h0, h⟩ _ hi h96' _
      rw [sz_mk] at hi
      exfalso
      rcases h with ⟨rfl, rfl, h⟩ | ⟨rfl, rfl, h⟩
      · rcases Nat.lt_or_ge i p.length with h2 | h2
        · obtain ⟨c, hc, e⟩ := atp i h2
          rw [e] at h96'
          exact hne96 c (hp g c hc).2 h96'
        · obtain rfl : i = p.length := by omega
          exact h96 h96'
      · obtain ⟨c, hc, e⟩ := atq i h (by omega)
        rw [e] at h96'
        exact hne96 c (hq g c hc).2 h96'
    · rintro i em tk bk ks f' rv ⟨rfl, h⟩ hei hi hf c W hin hm
      rw [sz_mk] at hi
      rcases h with ⟨rfl, rfl, h⟩ | ⟨rfl, rfl, h⟩
      · rcases Nat.lt_or_ge i p.length with h2 | h2
        · obtain ⟨c, hc, e⟩ := atp i h2
          rw [e, (hp g c hc).1] at hf
          cases hf
        · obtain rfl : i = p.length := by omega
          rw [hpf g] at hf
          simp only [Option.some.injEq, Prod.mk.injEq] at hf
          obtain ⟨rfl, rfl⟩ := hf
          refine (hcall g W).mono ?_
          rintro e w' ⟨v, rfl, hit, hbel⟩
          have hWs : w.heap.size ≤ W.heap.size := hm.size
          have hm1 : Mod (fun k => k = g ∨ w.heap.size ≤ k) W w' := Mod.below hbel (fun k h1 h2 => .inr (Nat.le_trans hWs h2))
          obtain ⟨l, vs, hps1, hrow1, hln1, hit1⟩ := hin
          have hit2 : IsItem w' w.heap.size v k := by
            obtain ⟨b, h1, h2, h3⟩ := hit
            exact ⟨b, h1, h2, Nat.le_trans hWs h3⟩
          refine ⟨c, _, ⟨l, vs, hps1.below hbel, own_mod hrow1 (Mod.below' (S := fun _ => False) hbel) (fun _ _ x => x), hln1, hit1.mod (S := fun _ => False) (Mod.below' hbel) (fun _ _ _ _ _ _ x => x)⟩, hm1, .inr ⟨v, k, p.length, p.length + r.length, rfl, hit2, hks, Nat.zero_le _, by rw [sz_mk]; omega, by omega, by omega, by rw [sz_mk]; omega, by show (false || decide _) = false; rw [Bool.false_or]; exact decide_eq_false h96, .inr ⟨rfl, ?_, Nat.le_refl _⟩⟩⟩
          rw [hpiece]
          rfl
      · obtain ⟨c, hc, e⟩ := atq i h (by omega)
        rw [e, (hq g c hc).1] at hf
        cases hf
  · subst hF
    refine ⟨by simp, ?_, outX out, outX_plain out, fun k' hk hnk => ?_, ?_⟩
    · rw [List.filterMap_append, List.filterMap_append, List.flatten_append, List.flatten_append, List.length_append, List.length_append, pc_plain, pc_plain]
      omega
    · simp only [List.mem_append, List.mem_cons, List.not_mem_nil, or_false] at hk
      rcases hk with (hk | hk) | hk
      · exact absurd (pc_mem hk) (hnk _)
      · subst hk
        rw [houtk]
        rcases hko with ⟨l, e, _, _⟩ | ⟨_, h2⟩
        · exact absurd e (hnk l)
        · exact h2
      · exact absurd (pc_mem hk) (hnk _)
    · rw [List.flatMap_append, List.flatMap_append, pc_out, pc_out]
      simp [houtk]
end Go.Proofs.YtpojmloeadodhaaGreatDoor
/- The digits of a number, as the laws' digits spells them; a character's bytes. No program in this text. -/


namespace Go.Proofs.YtpojmloeadodhaaGreatDoor
open Go.RowKit
def dgc (d : Nat) : UInt8 := if d < 10 then UInt8.ofNat (48 + d) else UInt8.ofNat (87 + d)
theorem dgc_nat {d : Nat} (h : d < 16) : (dgc d).toNat = if d < 10 then 48 + d else 87 + d := by
  unfold dgc
  split
  · rw [UInt8.toNat_ofNat']; omega
  · rw [UInt8.toNat_ofNat']; omega
/-- The digits of n to the base b, at most f of them. -/
def digsF (b : Nat) : Nat → Nat → List UInt8
  | 0, _ => []
  | f + 1, n => if n < b then [dgc n] else digsF b f (n / b) ++ [dgc (n % b)]
theorem digsF_len (b f n : Nat) : (digsF b f n).length ≤ f := by
  induction f generalizing n with
  | zero => simp [digsF]
  | succ f ih =>
    rw [digsF]
    split
    · simp
    · have := ih (n / b)
      simp
      omega
theorem digsF_pos (b f n : Nat) (h : 0 < f) : 0 < (digsF b f n).length := by
  cases f with
  | zero => omega
  | succ f =>
    rw [digsF]
    split <;> simp
theorem digsF_mem (b f n : Nat) (hb : 0 < b) {c : UInt8} (h : c ∈ digsF b f n) : ∃ d, d < b ∧ c = dgc d := by
  induction f generalizing n with
  | zero => simp [digsF] at h
  | succ f ih =>
    rw [digsF] at h
    split at h
    · simp only [List.mem_cons, List.not_mem_nil, or_false] at h
      exact ⟨n, by assumption, h⟩
    · rcases List.mem_append.1 h with h | h
      · exact ih _ h
      · simp only [List.mem_cons, List.not_mem_nil, or_false] at h
        exact ⟨n % b, Nat.mod_lt _ hb, h⟩
/-- A hexadecimal digit's value (lower case). -/
def hexV (c : UInt8) : Nat := if c.toNat ≤ 57 then c.toNat - 48 else c.toNat - 87
theorem hexV_dgc {d : Nat} (h : d < 16) : hexV (dgc d) = d := by
  unfold hexV
  rw [dgc_nat h]
  split
  · split at * <;> omega
  · split at * <;> omega
def hexN (l : List UInt8) : Nat := l.foldl (fun a c => a * 16 + hexV c) 0
theorem hexN_snoc (l : List UInt8) (c : UInt8) : hexN (l ++ [c]) = hexN l * 16 + hexV c := by simp [hexN]
theorem hexN_digs (f n : Nat) (h : n < 16 ^ f) : hexN (digsF 16 f n) = n := by
  induction f generalizing n with
  | zero => simp at h; subst h; rfl
  | succ f ih =>
    rw [digsF]
    split
    · rename_i h1
      show 0 * 16 + hexV (dgc n) = n
      rw [hexV_dgc h1]; omega
    · have h2 : n / 16 < 16 ^ f := by
        rw [Nat.pow_succ] at h
        omega
      rw [hexN_snoc, ih _ h2, hexV_dgc (Nat.mod_lt _ (by decide))]
      omega
theorem decFrom_snoc (l : List UInt8) (acc m d : Nat) (c : UInt8) (h : Lib.decFrom acc l = some m) (hc : Lib.digitVal c = some d) : Lib.decFrom acc (l ++ [c]) = some (m * 10 + d) := by
  induction l generalizing acc with
  | nil =>
    simp only [Lib.decFrom, Option.some.injEq] at h
    subst h
    simp [Lib.decFrom, hc]
  | cons a t ih =>
    simp only [List.cons_append, Lib.decFrom] at h ⊢
    cases ha : Lib.digitVal a with
    | none => simp [ha] at h
    | some e =>
      simp only [ha] at h ⊢
      exact ih _ h
theorem digitVal_dgc {d : Nat} (h : d < 10) : Lib.digitVal (dgc d) = some d := by
  unfold Lib.digitVal
  rw [dgc_nat (by omega), if_pos h, if_pos (by omega)]
  congr 1
  omega
theorem decFrom_digs (f n : Nat) (h : n < 10 ^ f) (hf : 0 < f) : Lib.decFrom 0 (digsF 10 f n) = some n := by
  induction f generalizing n with
  | zero => omega
  | succ f ih =>
    rw [digsF]
    split
    · rename_i h1
      simp [Lib.decFrom, digitVal_dgc h1]
    · have h2 : n / 10 < 10 ^ f := by
        rw [Nat.pow_succ] at h
        omega
      have hf2 : 0 < f := by
        cases f with
        | zero => simp at h; omega
        | succ f => omega
      rw [decFrom_snoc _ _ _ _ _ (ih _ h2 hf2) (digitVal_dgc (Nat.mod_lt _ (by decide)))]
      congr 1
      omega
theorem atoi_digs (f n : Nat) (h : n < 10 ^ f) (hf : 0 < f) : Lib.atoi (digsF 10 f n) = some (n : Int) := by
  have h1 := decFrom_digs f n h hf
  have hp := digsF_pos 10 f n hf
  have hm : ∀ c ∈ digsF 10 f n, ∃ d, d < 10 ∧ c = dgc d := fun c hc => digsF_mem 10 f n (by decide) hc
  generalize digsF 10 f n = l at *
  cases l with
  | nil => simp at hp
  | cons b r =>
    obtain ⟨d, hd, hb⟩ := hm b (List.mem_cons_self ..)
    have hn := dgc_nat (d := d) (by omega)
    rw [if_pos hd, ← hb] at hn
    have h45 : (b == 45) = false := by
      rw [beq_eq_false_iff_ne]
      intro e
      rw [e] at hn
      have : (45 : UInt8).toNat = 45 := rfl
      omega
    have h43 : (b == 43) = false := by
      rw [beq_eq_false_iff_ne]
      intro e
      rw [e] at hn
      have : (43 : UInt8).toNat = 43 := rfl
      omega
    simp only [Lib.atoi, h45, h43, Bool.false_eq_true, if_false, Lib.decNat, List.isEmpty_cons, h1]
    rfl
/-- The bytes of the character that a numeric reference names. -/
def cpB (n : Nat) : List UInt8 := (Utf8.encode (if n = 0 then 65533 else n)).data.toList
theorem encode_bad (r : Int) (h : Utf8.valid r = false) : Utf8.encode r = ⟨#[239, 191, 189]⟩ := by
  unfold Utf8.encode
  rw [h]
  simp [Utf8.runeError]
theorem encode_len (r : Int) : 0 < (Utf8.encode r).data.toList.length ∧ (Utf8.encode r).data.toList.length ≤ 4 := by
  unfold Utf8.encode
  simp only
  repeat' split
  all_goals simp
theorem cpB_len (n : Nat) : 0 < (cpB n).length ∧ (cpB n).length ≤ 4 := encode_len _
theorem cpB_big (n : Nat) (h : 1114111 < n) : cpB n = [239, 191, 189] := by
  unfold cpB
  rw [if_neg (by omega), encode_bad _ (by unfold Utf8.valid; simp; omega)]
theorem cpB_zero : cpB 0 = [239, 191, 189] := by decide
theorem cpB_hole (n : Nat) (h : 55296 ≤ n ∧ n ≤ 57343) : cpB n = [239, 191, 189] := by
  unfold cpB
  rw [if_neg (by omega), encode_bad _ (by unfold Utf8.valid; simp; omega)]
theorem cpB_ok (n : Nat) (h : 0 < n) : cpB n = (Utf8.encode n).data.toList := by
  unfold cpB
  rw [if_neg (by omega)]
end Go.Proofs.YtpojmloeadodhaaGreatDoor
/- strconv.ParseInt to the base 16, at one to six digits in lower case. -/




namespace Go.Proofs.YtpojmloeadodhaaGreatDoor
open Go.RowKit
def IsHex (c : UInt8) : Prop := (48 ≤ c.toNat ∧ c.toNat ≤ 57) ∨ (97 ≤ c.toNat ∧ c.toNat ≤ 102)
theorem dgc_hex {d : Nat} (h : d < 16) : IsHex (dgc d) := by
  have := dgc_nat h
  unfold IsHex
  split at this <;> omega
theorem hexN_lt (l : List UInt8) (h : ∀ c ∈ l, IsHex c) : hexN l < 16 ^ l.length := by
  have key : ∀ r : List UInt8, (∀ c ∈ r, IsHex c) → hexN r.reverse < 16 ^ r.length := by
    intro r
    induction r with
    | nil => intro _; decide
    | cons a t ih =>
      intro hr
      have h1 := ih (fun c hc => hr c (List.mem_cons_of_mem _ hc))
      have h2 := hr a (List.mem_cons_self ..)
      rw [List.reverse_cons, hexN_snoc, List.length_cons, Nat.pow_succ]
      have h3 : hexV a < 16 := by
        unfold hexV
        unfold IsHex at h2
        split <;> omega
      omega
  have := key l.reverse (fun c hc => h c (List.mem_reverse.1 hc))
  rwa [List.reverse_reverse, List.length_reverse] at this
theorem hexN_take (l : List UInt8) (k : Nat) (h : k < l.length) : hexN (l.take (k + 1)) = hexN (l.take k) * 16 + hexV l[k] := by
  rw [List.take_add_one, List.getElem?_eq_getElem h]
  exact hexN_snoc _ _
theorem hexN_take_lt (l : List UInt8) (k : Nat) (hl : l.length ≤ 6) (h : ∀ c ∈ l, IsHex c) : hexN (l.take k) < 16777216 := by
  have h1 := hexN_lt (l.take k) (fun c hc => h c (List.mem_of_mem_take hc))
  have h2 : 16 ^ (l.take k).length ≤ 16 ^ 6 := Nat.pow_le_pow_right (by decide) (by rw [List.length_take]; omega)
  have h3 : (16 : Nat) ^ 6 = 16777216 := by decide
  omega
theorem lower_hex (c : Nat) (w : World) (h : 97 ≤ c ∧ c ≤ 102) : Calls Tryz.prog 199 #[.int .u8 c] w fun e w' => e = .returned (.int .u8 c) ∧ w' = w := by
  have hv : bits .or .u8 (c : Int) 32 = c := by
    have h6 : c = 97 ∨ c = 98 ∨ c = 99 ∨ c = 100 ∨ c = 101 ∨ c = 102 := by omega
    rcases h6 with rfl | rfl | rfl | rfl | rfl | rfl <;> decide
  go_enter Tryz.func199, Tryz.ntmps199
  go_wp2_with fail
  go_ret
  exact ⟨rfl, rfl⟩
set_option maxHeartbeats 32000000 in
set_option maxRecDepth 100000 in
theorem parseUint16 (t : ByteArray) (w : World) (hne : t.size ≠ 0) (hl : t.size ≤ 6) (hc : ∀ c ∈ t.data.toList, IsHex c) :
    Calls Tryz.prog 186 #[.string t, .int .i64 16, .int .i64 0] w fun e w' => e = .returned (.tuple #[.int .u64 (hexN t.data.toList), .nilIface]) ∧ w' = Lib.bytesWorld w 5 t := by
  have hemp : t.toList.isEmpty = false := by
    rw [← decide_eq_emptyBytes]
    exact decide_eq_false (fun h => hne (by rw [h]; rfl))
  have hcv := Lib.run_convert_string_bytes (P := Tryz.prog) w 9 51 5 t (u := .string) Tryz.underlying9 Tryz.underlying51 Tryz.underlying5
  have hB : ∀ j, j < t.size → (Lib.bytesWorld w 5 t).cell? ⟨w.heap.size, j, none⟩ = some (.int .u8 (t.data.toList.getD j 0).toNat) := fun j hj => Lib.bytesWorld_cell w 5 t j hj
  obtain ⟨W1, hW1⟩ : ∃ W1, W1 = Lib.bytesWorld w 5 t := ⟨_, rfl⟩
  rw [← hW1] at hcv hB ⊢
  clear hW1
  obtain ⟨bs, hL⟩ : ∃ bs, bs = t.data.toList := ⟨_, rfl⟩
  have hLn : bs.length = t.size := by rw [hL, Lib.size_eq]
  rw [← hL] at hB hc ⊢
  clear hL
  have HC := hid hc
  clear hc
  have hmv : IntKind.u64.wrap (IntKind.u64.wrap 18446744073709551616 - 1) = 18446744073709551615 := by
    rw [IntKind.wrap_u64, IntKind.wrap_u64]
    decide
  go_enter Tryz.func186, Tryz.ntmps186
  go_wp2
  go_loop [12, 13, 101] (fun vu vn vi => ∃ (k : Nat) (a : Int), vu = .bool false ∧ vn = .int .u64 a ∧ vi = .int .i64 k ∧ k ≤ t.size ∧ Hid (a = (hexN (bs.take k) : Int)))
    (fun _ _ vi => t.size - (intOf vi).toNat)
  case atStart => exact ⟨0, 0, rfl, rfl, rfl, by omega, rfl⟩
  case round =>
    obtain ⟨k, a, rfl, rfl, rfl, hk, HA⟩ := hrel
    have hlt := hexN_take_lt bs k (by omega) HC.out
    have ha := HA.out
    have a0 : 0 ≤ a := by omega
    have a1 : a < 16777216 := by omega
    clear hlt ha
    by_cases hkn : k < t.size
    · have hcell := hB k hkn
      have hget : bs.getD k 0 = bs[k]'(by omega) := by simp [List.getD, List.getElem?_eq_getElem (show k < bs.length by omega)]
      rw [hget] at hcell
      have HS : Hid (hexN (bs.take (k + 1)) = hexN (bs.take k) * 16 + hexV (bs[k]'(by omega))) := hid (hexN_take bs k (by omega))
      have hcx := HC.out (bs[k]'(by omega)) (List.getElem_mem _)
      generalize bs[k]'(by omega) = c at hcell HS hcx
      clear hB hget
      rcases hcx with ⟨hd0, hd1⟩ | ⟨hd0, hd1⟩
      · have HN : Hid (a * 16 + ((c.toNat : Int) - 48) = (hexN (bs.take (k + 1)) : Int)) := hid (by
          rw [HS.out, HA.out]
          have : hexV c = c.toNat - 48 := by unfold hexV; rw [if_pos hd1]
          omega)
        have icut : a < 1152921504606846976 := by omega
        have iov : a * 16 + ((c.toNat : Int) - 48) < 18446744073709551616 := by omega
        go_wp2
        refine ⟨⟨k + 1, a * 16 + ((c.toNat : Int) - 48), rfl, (by first | rfl | (congr 1; omega)), (by first | rfl | (congr 1; omega)), by omega, HN⟩, by simp [intOf]; omega⟩
      · have HN : Hid (a * 16 + ((c.toNat : Int) - 87) = (hexN (bs.take (k + 1)) : Int)) := hid (by
          rw [HS.out, HA.out]
          have : hexV c = c.toNat - 87 := by unfold hexV; rw [if_neg (by omega)]
          omega)
        have icut : a < 1152921504606846976 := by omega
        have iov : a * 16 + ((c.toNat : Int) - 87) < 18446744073709551616 := by omega
        have HLO := hid (fun W => lower_hex c.toNat W ⟨hd0, hd1⟩)
        go_wp2_with fail
        refine (HLO.out _).mono ?_
        rintro e w1 ⟨rfl, rfl⟩
        go_wp2_with fail
        refine (HLO.out _).mono ?_
        rintro e w1 ⟨rfl, rfl⟩
        go_wp2_with fail
        refine (HLO.out _).mono ?_
        rintro e w1 ⟨rfl, rfl⟩
        go_wp2_with fail
        refine ⟨⟨k + 1, a * 16 + ((c.toNat : Int) - 87), rfl, (by first | rfl | (congr 1; omega)), (by first | rfl | (congr 1; omega)), by omega, HN⟩, by simp [intOf]; omega⟩
    · have hkk : k = t.size := by omega
      subst hkk
      have hv := HA.out
      rw [List.take_of_length_le (by omega)] at hv
      subst hv
      go_wp2
      go_ret2
      exact ⟨rfl, rfl⟩
end Go.Proofs.YtpojmloeadodhaaGreatDoor
/- The library's contracts on strconv.Atoi, laid at this program. -/



namespace Go.Proofs
open Go.Shelf
def Tryz.layAT_ren : Go.Shelf.Ren := ⟨fun | 244 => 156 | 247 => 154 | 287 => 186 | 321 => 199 | 322 => 200 | n => n, fun | 9 => 9 | 3 => 3 | 75 => 177 | 4 => 4 | 5 => 5 | 167 => 293 | 37 => 51 | 0 => 0 | 85 => 178 | 2 => 2 | 53 => 289 | 175 => 294 | 46 => 252 | 21 => 21 | 80 => 62 | n => n, fun | n => n⟩
theorem Tryz.layAT : Go.Proofs.Lays.n244 Tryz.prog Tryz.layAT_ren := {
  mixed := by kernel_rfl
  f244 := Tryz.func156.trans (congrArg some (by kernel_rfl))
  f247 := Tryz.func154.trans (congrArg some (by kernel_rfl))
  f287 := Tryz.func186.trans (congrArg some (by kernel_rfl))
  f321 := Tryz.func199.trans (congrArg some (by kernel_rfl))
  f322 := Tryz.func200.trans (congrArg some (by kernel_rfl))
  t0 := Tryz.underlying0
  a0 := Tryz.isAgg0
  z0 := Tryz.sizeOf0
  v0 := Tryz.zeroValue0
  t2 := Tryz.underlying2
  a2 := Tryz.isAgg2
  z2 := Tryz.sizeOf2
  v2 := Tryz.zeroValue2
  t3 := Tryz.underlying3
  a3 := Tryz.isAgg3
  z3 := Tryz.sizeOf3
  v3 := Tryz.zeroValue3
  t4 := Tryz.underlying4
  a4 := Tryz.isAgg4
  z4 := Tryz.sizeOf4
  v4 := Tryz.zeroValue4
  t5 := Tryz.underlying5
  a5 := Tryz.isAgg5
  z5 := Tryz.sizeOf5
  v5 := Tryz.zeroValue5
  t9 := Tryz.underlying9
  a9 := Tryz.isAgg9
  z9 := Tryz.sizeOf9
  v9 := Tryz.zeroValue9
  t21 := Tryz.underlying21
  a21 := Tryz.isAgg21
  z21 := Tryz.sizeOf21
  v21 := Tryz.zeroValue21
  t37 := Tryz.underlying51
  a37 := Tryz.isAgg51
  z37 := Tryz.sizeOf51
  v37 := Tryz.zeroValue51
  t46 := Tryz.underlying252
  a46 := Tryz.isAgg252
  z46 := Tryz.sizeOf252
  v46 := Tryz.zeroValue252
  t53 := Tryz.underlying289
  a53 := Tryz.isAgg289
  z53 := Tryz.sizeOf289
  v53 := Tryz.zeroValue289
  t75 := Tryz.underlying177
  a75 := Tryz.isAgg177
  z75 := Tryz.sizeOf177
  v75 := Tryz.zeroValue177
  t85 := Tryz.underlying178
  a85 := Tryz.isAgg178
  z85 := Tryz.sizeOf178
  v85 := Tryz.zeroValue178
  t167 := Tryz.underlying293
  a167 := Tryz.isAgg293
  z167 := Tryz.sizeOf293
  v167 := Tryz.zeroValue293
  t175 := Tryz.underlying294
  a175 := Tryz.isAgg294
  z175 := Tryz.sizeOf294
  v175 := Tryz.zeroValue294 }
end Go.Proofs
/- parseHTMLEntity at a numeric reference: the character that it names. -/





namespace Go.Proofs.YtpojmloeadodhaaGreatDoor
open Go.RowKit
set_option maxRecDepth 20000 in
theorem parseInt16 (t : ByteArray) (w : World) (hne : t.size ≠ 0) (hl : t.size ≤ 6) (hc : ∀ c ∈ t.data.toList, IsHex c) :
    Calls Tryz.prog 154 #[.string t, .int .i64 16, .int .i64 0] w fun e w' => e = .returned (.tuple #[.int .i64 (hexN t.data.toList), .nilIface]) ∧ Below w.heap.size w w' := by
  have hemp : t.toList.isEmpty = false := by
    rw [← decide_eq_emptyBytes]
    exact decide_eq_false (fun h => hne (by rw [h]; rfl))
  have hpos : 0 < t.size := by omega
  have hb := get_bt t
  obtain ⟨c, hc1, hc2, hc3⟩ : ∃ c : UInt8, c ∈ t.data.toList ∧ IsHex c ∧ bt t 0 = (c.toNat : Int) := by
    cases hd : t.data.toList with
    | nil =>
      exfalso
      have h0 : t.size = 0 := by rw [Lib.size_eq, hd]; rfl
      omega
    | cons c r =>
      refine ⟨c, List.mem_cons_self .., hc c (by rw [hd]; exact List.mem_cons_self ..), ?_⟩
      have : t = ⟨(c :: r).toArray⟩ := by apply ByteArray.ext; rw [← hd]
      rw [this]
      exact bt_some rfl
  have hn := hexN_take_lt t.data.toList 6 (by rw [← Lib.size_eq]; exact hl) hc
  rw [List.take_of_length_le (by rw [← Lib.size_eq]; exact hl)] at hn
  have n43 : ¬ bt t 0 = 43 := by unfold IsHex at hc2; omega
  have n45 : ¬ bt t 0 = 45 := by unfold IsHex at hc2; omega
  have b43 : (bt t 0 == 43) = false := by simpa using n43
  have b45 : (bt t 0 == 45) = false := by simpa using n45
  have HU := hid (fun W => parseUint16 t W hne hl hc)
  generalize hexN t.data.toList = n at *
  obtain ⟨a, ha⟩ : ∃ a : Int, a = (n : Int) := ⟨_, rfl⟩
  rw [← ha] at HU ⊢
  have a0 : 0 ≤ a := by omega
  have a1 : a < 16777216 := by omega
  clear hc hc2 hc3 n43 n45 ha hn
  go_enter Tryz.func154, Tryz.ntmps154
  go_wp2_with fail
  refine (HU.out w).mono ?_
  rintro e w1 ⟨rfl, hw⟩
  have hbel : Below w.heap.size w w1 := by rw [hw]; exact Lib.bytesWorld_below w _ t
  clear hw
  go_wp2_with fail
  go_ret2
  exact ⟨rfl, hbel⟩
theorem pubParseInt16 (t : ByteArray) (w : World) (hne : t.size ≠ 0) (hl : t.size ≤ 6) (hc : ∀ c ∈ t.data.toList, IsHex c) :
    Calls Tryz.prog 95 #[.string t, .int .i64 16, .int .i64 0] w fun e w' => e = .returned (.tuple #[.int .i64 (hexN t.data.toList), .nilIface]) ∧ Below w.heap.size w w' := by
  have HU := hid (parseInt16 t w hne hl hc)
  go_enter Tryz.func95, Tryz.ntmps95
  go_wp2_with fail
  refine HU.out.mono ?_
  rintro e w1 ⟨rfl, hbel⟩
  go_wp2_with fail
  go_ret2
  exact ⟨rfl, hbel⟩
theorem pubAtoi (t : ByteArray) (n : Int) (w : World) (hl : t.size ≤ 18) (h : Lib.atoi t.data.toList = some n) :
    Calls Tryz.prog 97 #[.string t] w fun e w' => e = .returned (.tuple #[.int .i64 n, .nilIface]) ∧ Below w.heap.size w w' := by
  have HU := hid (Any.internal_strconv_Atoi Tryz.layAT t n hl h w)
  go_enter Tryz.func97, Tryz.ntmps97
  go_wp2_with fail
  refine HU.out.mono ?_
  rintro e w1 ⟨rfl, t', hw⟩
  have hbel : Below w.heap.size w w1 := by rw [hw]; exact Lib.bytesWorld_below w _ t'
  clear hw
  go_wp2_with fail
  go_ret2
  exact ⟨rfl, hbel⟩
theorem enc_fffd : Utf8.encode 65533 = ⟨#[239, 191, 189]⟩ := rfl
theorem cp_enc1 (n : Nat) (h : n > 1114111 ∨ n = 0) : Utf8.encode 65533 = ⟨(cpB n).toArray⟩ := by
  have e : cpB n = [239, 191, 189] := by
    rcases h with h | h
    · exact cpB_big n h
    · rw [h]; exact cpB_zero
  rw [e]
  exact enc_fffd
theorem cp_enc2 (n : Nat) (h : ¬ n = 0) : Utf8.encode (n : Int) = ⟨(cpB n).toArray⟩ := by
  have h1 := cpB_ok n (by omega)
  generalize Utf8.encode (n : Int) = E at h1 ⊢
  exact ByteArray.ext ((congrArg List.toArray h1).trans Array.toArray_toList).symm
theorem isHexDigit_yes (z : Int) (w : World) (h : (48 ≤ z ∧ z ≤ 57) ∨ (97 ≤ z ∧ z ≤ 102)) : Calls Tryz.prog 94 #[.int .u8 z] w fun e w' => e = .returned (.bool true) ∧ w' = w := by
  rcases h with ⟨h1, h2⟩ | ⟨h1, h2⟩
  · go_enter Tryz.func94, Tryz.ntmps94
    go_wp2_with fail
    go_ret
    exact ⟨rfl, rfl⟩
  · go_enter Tryz.func94, Tryz.ntmps94
    go_wp2_with fail
    go_ret
    exact ⟨rfl, rfl⟩
theorem isHexDigit_semi (w : World) : Calls Tryz.prog 94 #[.int .u8 59] w fun e w' => e = .returned (.bool false) ∧ w' = w := by
  go_enter Tryz.func94, Tryz.ntmps94
  go_wp2_with fail
  go_ret
  exact ⟨rfl, rfl⟩
theorem isDigit_yes (z : Int) (w : World) (h1 : 48 ≤ z) (h2 : z ≤ 57) : Calls Tryz.prog 96 #[.int .u8 z] w fun e w' => e = .returned (.bool true) ∧ w' = w := by
  go_enter Tryz.func96, Tryz.ntmps96
  go_wp2_with fail
  go_ret
  exact ⟨rfl, rfl⟩
theorem isDigit_semi (w : World) : Calls Tryz.prog 96 #[.int .u8 59] w fun e w' => e = .returned (.bool false) ∧ w' = w := by
  go_enter Tryz.func96, Tryz.ntmps96
  go_wp2_with fail
  go_ret
  exact ⟨rfl, rfl⟩
@[reducible] def EntQ (i en n : Nat) (w : World) (e : Ending) (w' : World) : Prop :=
  ∃ b, e = .returned (.tuple #[.iface 137 (.pointer (some ⟨b, 0, none⟩)), .int .i64 i, .int .i64 en, .bool true]) ∧ w.heap.size ≤ b ∧ Blk w' b 118 #[.string ⟨(cpB n).toArray⟩] ∧ Below w.heap.size w w'
set_option maxRecDepth 20000 in
set_option maxHeartbeats 3200000 in
theorem parseEnt_hex (p : Value) (s : ByteArray) (i m : Nat) (w : World) (hs : s.size ≤ 100000) (hi : i + 3 + m < s.size) (hm1 : 1 ≤ m) (hm6 : m ≤ 6) (h1 : bt s (i + 1) = 35) (h2 : bt s (i + 2) = 120) (hd : ∀ j, j < m → IsHex (UInt8.ofNat (bt s (i + 3 + j)).toNat) ∧ 0 ≤ bt s (i + 3 + j) ∧ bt s (i + 3 + j) < 256) (h3 : bt s (i + 3 + m) = 59)
    (hc : ∀ c ∈ (s.extract (i + 3) (i + 3 + m)).data.toList, IsHex c) :
    Calls Tryz.prog 59 #[p, .string s, .int .i64 i] w (EntQ i (i + 3 + m + 1) (hexN (s.extract (i + 3) (i + 3 + m)).data.toList) w) := by
  have hb := get_bt s
  have HD := hid (fun j (hj : j < m) => (show (48 ≤ bt s (i + 3 + j) ∧ bt s (i + 3 + j) ≤ 57) ∨ (97 ≤ bt s (i + 3 + j) ∧ bt s (i + 3 + j) ≤ 102) from by
    obtain ⟨q1, q2, q3⟩ := hd j hj
    unfold IsHex at q1
    rw [UInt8.toNat_ofNat', Nat.mod_eq_of_lt (by omega)] at q1
    omega))
  have e1 : (bt s (i + 1) == 35) = true := by simpa using h1
  have e2 : (bt s (i + 2) == 120) = true := by simpa using h2
  have e3 : (bt s (i + 3 + m) == 59) = true := by simpa using h3
  have e3' : (bt s (i + 3 + m) != 59) = false := by simp [bne, e3]
  have hxs : (s.extract (i + 3) (i + 3 + m)).size = m := by rw [ByteArray.size_extract]; omega
  have HP := hid (fun W => pubParseInt16 (s.extract (i + 3) (i + 3 + m)) W (by omega) (by omega) hc)
  have hn := hexN_take_lt (s.extract (i + 3) (i + 3 + m)).data.toList 6 (by rw [← Lib.size_eq]; omega) hc
  rw [List.take_of_length_le (by rw [← Lib.size_eq]; omega)] at hn
  have H3 := hid h3
  have HX := hid hxs
  clear hd hc h1 h2 h3 hxs
  generalize hexN (s.extract (i + 3) (i + 3 + m)).data.toList = n at *
  obtain ⟨a, ha⟩ : ∃ a : Int, a = (n : Int) := ⟨_, rfl⟩
  rw [← ha] at HP
  have HA := hid ha
  clear ha hn
  go_enter Tryz.func59, Tryz.ntmps59
  go_wp2_with fail
  go_loopw [13] (fun t13 wr => ∃ j : Nat, t13 = .int .i64 j ∧ i + 3 ≤ j ∧ j ≤ i + 3 + m ∧ wr = w) (fun t13 _ => i + 3 + m + 1 - (intOf t13).toNat)
  case atStart => exact ⟨i + 3, by go_num, Nat.le_refl _, by omega, rfl⟩
  case round =>
    obtain ⟨j, rfl, hj1, hj2, rfl⟩ := hrel
    by_cases hlt : j < i + 3 + m
    · have hz := HD.out (j - (i + 3)) (by omega)
      rw [show i + 3 + (j - (i + 3)) = j from by omega] at hz
      have HZ := hid (isHexDigit_yes (bt s j) wr hz)
      clear hz
      go_wp2_with fail
      refine HZ.out.mono ?_
      rintro e w1 ⟨rfl, rfl⟩
      go_wp2_with fail
      go_roundw
      case rel => exact ⟨j + 1, by go_num, by omega, by omega, trivial⟩
      case measure => simp [intOf]; omega
    · obtain rfl : j = i + 3 + m := by omega
      have HZ := hid (isHexDigit_semi wr)
      rw [← H3.out] at HZ
      go_wp2_with fail
      refine HZ.out.mono ?_
      rintro e w1 ⟨rfl, rfl⟩
      go_wp2_with fail
      refine (HP.out _).mono ?_
      rintro e w2 ⟨rfl, hbel⟩
      by_cases hbig : n > 1114111 ∨ n = 0
      · have hcp := hid (cp_enc1 n hbig)
        rcases hbig with hbig | hbig
        · have hA : 1114111 < a := by rw [HA.out]; omega
          go_wp2_with fail
          refine bodyPost_ret (by simp [results, Tryz.results59, go_sem]; try rfl) rfl ?_
          exact ⟨w2.heap.size, by rw [show ((i + 3 + m + 1 : Nat) : Int) = (i : Int) + 3 + m + 1 from by omega], hbel.size, by rw [← hcp.out]; exact Blk.new _ _ _, hbel.alloc hbel.size _⟩
        · obtain rfl : a = 0 := by rw [HA.out, hbig]; rfl
          go_wp2_with fail
          refine bodyPost_ret (by simp [results, Tryz.results59, go_sem]; try rfl) rfl ?_
          exact ⟨w2.heap.size, by rw [show ((i + 3 + m + 1 : Nat) : Int) = (i : Int) + 3 + m + 1 from by omega], hbel.size, by rw [← hcp.out]; exact Blk.new _ _ _, hbel.alloc hbel.size _⟩
      · have hcp := hid (cp_enc2 n (fun h => hbig (.inr h)))
        rw [← HA.out] at hcp
        have hb1 : a ≤ 1114111 := by rw [HA.out]; omega
        have hb2 : 0 < a := by rw [HA.out]; omega
        have hb0 : (a == 0) = false := by simp; omega
        clear hbig
        go_wp2_with fail
        refine bodyPost_ret (by simp [results, Tryz.results59, go_sem]; try rfl) rfl ?_
        exact ⟨w2.heap.size, by rw [show ((i + 3 + m + 1 : Nat) : Int) = (i : Int) + 3 + m + 1 from by omega], hbel.size, by rw [← hcp.out]; exact Blk.new _ _ _, hbel.alloc hbel.size _⟩
set_option maxRecDepth 20000 in
set_option maxHeartbeats 3200000 in
theorem parseEnt_dec (p : Value) (s : ByteArray) (i m n : Nat) (w : World) (hs : s.size ≤ 100000) (hi : i + 2 + m < s.size) (hm1 : 1 ≤ m) (hm7 : m ≤ 7) (h1 : bt s (i + 1) = 35) (hd : ∀ j, j < m → 48 ≤ bt s (i + 2 + j) ∧ bt s (i + 2 + j) ≤ 57) (h3 : bt s (i + 2 + m) = 59)
    (ha : Lib.atoi (s.extract (i + 2) (i + 2 + m)).data.toList = some (n : Int)) :
    Calls Tryz.prog 59 #[p, .string s, .int .i64 i] w (EntQ i (i + 2 + m + 1) n w) := by
  have hb := get_bt s
  have HD := hid hd
  have e1 : (bt s (i + 1) == 35) = true := by simpa using h1
  have h20 := hd 0 (by omega)
  rw [Nat.add_zero] at h20
  have e2 : (bt s (i + 2) == 120) = false := by simp; omega
  have e2' : (bt s (i + 2) == 88) = false := by simp; omega
  have e3 : (bt s (i + 2 + m) == 59) = true := by simpa using h3
  have e3' : (bt s (i + 2 + m) != 59) = false := by simp [bne, e3]
  have hxs : (s.extract (i + 2) (i + 2 + m)).size = m := by rw [ByteArray.size_extract]; omega
  have HP := hid (fun W => pubAtoi (s.extract (i + 2) (i + 2 + m)) n W (by omega) ha)
  have H3 := hid h3
  have HX := hid hxs
  clear hd ha h1 h20 h3 hxs
  obtain ⟨a, ha⟩ : ∃ a : Int, a = (n : Int) := ⟨_, rfl⟩
  rw [← ha] at HP
  have HA := hid ha
  clear ha
  go_enter Tryz.func59, Tryz.ntmps59
  go_wp2_with fail
  go_loopw [16] (fun t16 wr => ∃ j : Nat, t16 = .int .i64 j ∧ i + 2 ≤ j ∧ j ≤ i + 2 + m ∧ wr = w) (fun t16 _ => i + 2 + m + 1 - (intOf t16).toNat)
  case atStart => exact ⟨i + 2, by go_num, Nat.le_refl _, by omega, rfl⟩
  case round =>
    obtain ⟨j, rfl, hj1, hj2, rfl⟩ := hrel
    by_cases hlt : j < i + 2 + m
    · have hz := HD.out (j - (i + 2)) (by omega)
      rw [show i + 2 + (j - (i + 2)) = j from by omega] at hz
      have HZ := hid (isDigit_yes (bt s j) wr hz.1 hz.2)
      clear hz
      go_wp2_with fail
      refine HZ.out.mono ?_
      rintro e w1 ⟨rfl, rfl⟩
      go_wp2_with fail
      go_roundw
      case rel => exact ⟨j + 1, by go_num, by omega, by omega, trivial⟩
      case measure => simp [intOf]; omega
    · obtain rfl : j = i + 2 + m := by omega
      have HZ := hid (isDigit_semi wr)
      rw [← H3.out] at HZ
      go_wp2_with fail
      refine HZ.out.mono ?_
      rintro e w1 ⟨rfl, rfl⟩
      go_wp2_with fail
      refine (HP.out _).mono ?_
      rintro e w2 ⟨rfl, hbel⟩
      by_cases hbig : n > 1114111 ∨ n = 0
      · have hcp := hid (cp_enc1 n hbig)
        rcases hbig with hbig | hbig
        · have hA : 1114111 < a := by rw [HA.out]; omega
          go_wp2_with fail
          refine bodyPost_ret (by simp [results, Tryz.results59, go_sem]; try rfl) rfl ?_
          exact ⟨w2.heap.size, by rw [show ((i + 2 + m + 1 : Nat) : Int) = (i : Int) + 2 + m + 1 from by omega], hbel.size, by rw [← hcp.out]; exact Blk.new _ _ _, hbel.alloc hbel.size _⟩
        · obtain rfl : a = 0 := by rw [HA.out, hbig]; rfl
          go_wp2_with fail
          refine bodyPost_ret (by simp [results, Tryz.results59, go_sem]; try rfl) rfl ?_
          exact ⟨w2.heap.size, by rw [show ((i + 2 + m + 1 : Nat) : Int) = (i : Int) + 2 + m + 1 from by omega], hbel.size, by rw [← hcp.out]; exact Blk.new _ _ _, hbel.alloc hbel.size _⟩
      · have hcp := hid (cp_enc2 n (fun h => hbig (.inr h)))
        rw [← HA.out] at hcp
        have hb1 : a ≤ 1114111 := by rw [HA.out]; omega
        have hb2 : 0 < a := by rw [HA.out]; omega
        have hb0 : (a == 0) = false := by simp; omega
        clear hbig
        go_wp2_with fail
        refine bodyPost_ret (by simp [results, Tryz.results59, go_sem]; try rfl) rfl ?_
        exact ⟨w2.heap.size, by rw [show ((i + 2 + m + 1 : Nat) : Int) = (i : Int) + 2 + m + 1 from by omega], hbel.size, by rw [← hcp.out]; exact Blk.new _ _ _, hbel.alloc hbel.size _⟩
end Go.Proofs.YtpojmloeadodhaaGreatDoor
/- The text of the law FnCodePoint, and what it prints. -/


namespace Go.Proofs.YtpojmloeadodhaaGreatDoor
open Go.RowKit
def cpD (n : Nat) (hex : Bool) : List UInt8 := if hex then digsF 16 6 n else digsF 10 7 n
def hxL (hex : Bool) : List UInt8 := if hex then [120] else []
def refL (n : Nat) (hex : Bool) : List UInt8 := [38, 35] ++ hxL hex ++ cpD n hex ++ [59]
def cpT (n : Nat) (hex : Bool) : List UInt8 := [120] ++ refL n hex ++ [120]
def cpX (hex : Bool) : Nat := if hex then 1 else 0
structure CpL (n : Nat) (hex : Bool) : Prop where
  dec : n ≤ 9999999
  hx : hex = true → n ≤ 16777215
theorem hxL_len (hex : Bool) : (hxL hex).length = cpX hex := by cases hex <;> rfl
theorem cpD_len (n : Nat) (hex : Bool) : 0 < (cpD n hex).length ∧ (cpD n hex).length ≤ 7 ∧ (hex = true → (cpD n hex).length ≤ 6) := by
  unfold cpD
  cases hex with
  | true => exact ⟨digsF_pos 16 6 n (by decide), Nat.le_trans (digsF_len 16 6 n) (by decide), fun _ => digsF_len 16 6 n⟩
  | false => exact ⟨digsF_pos 10 7 n (by decide), digsF_len 10 7 n, fun h => by cases h⟩
theorem refL_len (n : Nat) (hex : Bool) : (refL n hex).length = 3 + cpX hex + (cpD n hex).length := by
  unfold refL
  rw [List.length_append, List.length_append, List.length_append, hxL_len]
  simp
  omega
theorem cpD_hex (n : Nat) (hex : Bool) {c : UInt8} (h : c ∈ cpD n hex) : IsHex c := by
  unfold cpD at h
  cases hex with
  | true =>
    obtain ⟨d, hd, rfl⟩ := digsF_mem 16 6 n (by decide) h
    exact dgc_hex hd
  | false =>
    obtain ⟨d, hd, rfl⟩ := digsF_mem 10 7 n (by decide) h
    exact dgc_hex (by omega)
theorem cpD_dig (n : Nat) {c : UInt8} (h : c ∈ cpD n false) : 48 ≤ c.toNat ∧ c.toNat ≤ 57 := by
  obtain ⟨d, hd, rfl⟩ := digsF_mem 10 7 n (by decide) h
  have := dgc_nat (d := d) (by omega)
  rw [if_pos hd] at this
  omega
theorem cpT_mem (n : Nat) (hex : Bool) {c : UInt8} (h : c ∈ cpT n hex) : 35 ≤ c.toNat ∧ c.toNat ≤ 120 := by
  unfold cpT refL at h
  simp only [List.mem_append, List.mem_cons, List.not_mem_nil, or_false] at h
  rcases h with (rfl | (((rfl | rfl) | h) | h) | rfl) | rfl
  · decide
  · decide
  · decide
  · cases hex with
    | true => simp only [hxL, if_true, List.mem_cons, List.not_mem_nil, or_false] at h; subst h; decide
    | false => cases h
  · have := cpD_hex n hex h
    unfold IsHex at this
    omega
  · decide
  · decide
theorem cpT_len (n : Nat) (hex : Bool) : (cpT n hex).length = 5 + cpX hex + (cpD n hex).length := by
  unfold cpT
  rw [List.length_append, List.length_append, refL_len]
  simp
  omega
theorem cpT_sz (n : Nat) (hex : Bool) : (cpT n hex).length ≤ 13 := by
  have := cpT_len n hex
  have := (cpD_len n hex).2.1
  have : cpX hex ≤ 1 := by cases hex <;> decide
  omega
theorem cpT_cons (n : Nat) (hex : Bool) : cpT n hex = 120 :: (refL n hex ++ [120]) := by simp [cpT]
theorem cpT_line (n : Nat) (hex : Bool) : ParLine ⟨(cpT n hex).toArray⟩ := by
  have hb0 : bt ⟨(cpT n hex).toArray⟩ 0 = 120 := by rw [cpT_cons]; exact bt_some (c := 120) rfl
  have hsz : (ByteArray.mk (cpT n hex).toArray).size ≤ 100000 := by rw [sz_mk]; have := cpT_sz n hex; omega
  have htab : ∀ k, bt ⟨(cpT n hex).toArray⟩ k ≠ 9 := fun k => bt_mem _ k (fun z => z ≠ 9) (by decide) (fun c hc e => by have := cpT_mem n hex hc; omega)
  have h32 : bt ⟨(cpT n hex).toArray⟩ 0 ≠ 32 := by rw [hb0]; decide
  refine { size := hsz, pos := by rw [sz_mk, cpT_cons]; simp, tab := htab, q := fun k hk => by rw [reach0 h32 hk, hb0]; decide, h32 := h32, hr := by rw [hb0]; decide, lt_ := by rw [hb0]; decide, fence := by rw [hb0]; decide, tick := by rw [hb0]; decide, item := ?_ }
  intro g b nl w hw
  refine startListItem_no g b 0 0 nl _ w hw (by omega) (Nat.zero_le _) htab (fun k hk => ?_)
  rw [reach0 h32 hk, hb0]
  unfold NoItem
  decide
theorem cpT_trim (n : Nat) (hex : Bool) : trimR (trimL (cpT n hex)) = cpT n hex := by
  refine trim_self _ (fun c hc => ?_) (fun c hc => ?_)
  · rw [cpT_cons] at hc
    cases hc
    decide
  · unfold cpT at hc
    rw [List.getLast?_append] at hc
    cases hc
    decide
theorem cpT_at (n : Nat) (hex : Bool) (j : Nat) (h : j < (cpD n hex).length) : (cpT n hex)[3 + cpX hex + j]? = (cpD n hex)[j]? := by
  unfold cpT refL
  rw [List.append_assoc, List.append_assoc, List.append_assoc, List.append_assoc]
  rw [List.getElem?_append_right (by simp; omega), List.getElem?_append_right (by simp; omega), List.getElem?_append_right (by rw [hxL_len]; simp; omega), List.getElem?_append_left (by rw [hxL_len]; simp; omega)]
  congr 1
  rw [hxL_len]
  simp
  omega
theorem cpT_semi (n : Nat) (hex : Bool) : (cpT n hex)[3 + cpX hex + (cpD n hex).length]? = some 59 := by
  unfold cpT refL
  rw [List.append_assoc, List.append_assoc, List.append_assoc, List.append_assoc]
  rw [List.getElem?_append_right (by simp; omega), List.getElem?_append_right (by simp; omega), List.getElem?_append_right (by rw [hxL_len]; simp; omega), List.getElem?_append_right (by rw [hxL_len]; simp; omega)]
  rw [hxL_len]
  simp only [List.length_cons, List.length_nil]
  rw [show 3 + cpX hex + (cpD n hex).length - (0 + 1) - (0 + 1 + 1) - cpX hex - (cpD n hex).length = 0 from by omega]
  rfl
theorem cpT_ext (n : Nat) (hex : Bool) : ((ByteArray.mk (cpT n hex).toArray).extract (3 + cpX hex) (3 + cpX hex + (cpD n hex).length)).data.toList = cpD n hex := by
  rw [extract_mk]
  have h1 : (cpT n hex).take (3 + cpX hex + (cpD n hex).length) = ([120, 38, 35] ++ hxL hex) ++ cpD n hex := by
    have : cpT n hex = (([120, 38, 35] ++ hxL hex) ++ cpD n hex) ++ [59, 120] := by simp [cpT, refL]
    rw [this]
    exact List.take_left' (by simp [hxL_len]; omega)
  have h2 : (([120, 38, 35] ++ hxL hex) ++ cpD n hex).drop (3 + cpX hex) = cpD n hex := List.drop_left' (by simp [hxL_len]; omega)
  simp only [h1, h2]
theorem parF_amp (g : Nat) : parF plainO g 38 = some (59, #[]) := rfl
theorem cp_call (n : Nat) (hex : Bool) (h : CpL n hex) (p : Value) (w : World) :
    Calls Tryz.prog 59 #[p, .string ⟨(cpT n hex).toArray⟩, .int .i64 (1 : Nat)] w (EntQ 1 (1 + (refL n hex).length) n w) := by
  have hsz : (ByteArray.mk (cpT n hex).toArray).size = 5 + cpX hex + (cpD n hex).length := by rw [sz_mk, cpT_len]
  have hdl := cpD_len n hex
  have hrl := refL_len n hex
  have hx := cpT_ext n hex
  have b2 : bt ⟨(cpT n hex).toArray⟩ (1 + 1) = 35 := by rw [cpT_cons]; exact bt_some (c := 35) rfl
  cases hex with
  | true =>
    have e1 : cpX true = 1 := rfl
    rw [e1] at hsz hx hrl
    have hv : hexN (cpD n true) = n := hexN_digs 6 n (by have := h.hx rfl; omega)
    have := parseEnt_hex p ⟨(cpT n true).toArray⟩ 1 (cpD n true).length w (by omega) (by omega) (by omega) (hdl.2.2 rfl) b2 (by rw [cpT_cons]; exact bt_some (c := 120) rfl) (fun j hj => ?_) (bt_some (c := 59) (cpT_semi n true)) (by rw [hx]; exact fun c hc => cpD_hex n true hc)
    · rw [hx, hv, show 1 + 3 + (cpD n true).length + 1 = 1 + (refL n true).length from by omega] at this
      exact this
    · have := cpT_at n true j hj
      rw [List.getElem?_eq_getElem hj] at this
      have hb := bt_some this
      rw [e1] at hb
      have h2 := cpD_hex n true (List.getElem_mem hj)
      have h3 := (cpD n true)[j].toNat_lt
      rw [hb]
      refine ⟨?_, by omega, by omega⟩
      rw [Int.toNat_natCast, UInt8.ofNat_toNat]
      exact h2
  | false =>
    have e1 : cpX false = 0 := rfl
    rw [e1] at hsz hx hrl
    have hv : Lib.atoi (cpD n false) = some (n : Int) := atoi_digs 7 n (by have := h.dec; omega) (by decide)
    have := parseEnt_dec p ⟨(cpT n false).toArray⟩ 1 (cpD n false).length n w (by omega) (by omega) (by omega) hdl.2.1 b2 (fun j hj => ?_) (bt_some (c := 59) (cpT_semi n false)) (by rw [hx]; exact hv)
    · rw [show 1 + 2 + (cpD n false).length + 1 = 1 + (refL n false).length from by omega] at this
      exact this
    · have := cpT_at n false j hj
      rw [List.getElem?_eq_getElem hj] at this
      have hb := bt_some this
      rw [e1] at hb
      have h2 := cpD_dig n (List.getElem_mem hj)
      rw [hb]
      omega
theorem inlC_cp (n : Nat) (hex : Bool) (h : CpL n hex) : InlC plainO (cpT n hex) ([120] ++ esc (cpB n) ++ [120]) := by
  have hx : ∀ g : Nat, ∀ c ∈ ([120] : List UInt8), parF plainO g (c.toNat : Int) = none ∧ c ≠ 96 := by
    intro g c hc
    simp only [List.mem_cons, List.not_mem_nil, or_false] at hc
    subst hc
    exact ⟨rfl, by decide⟩
  have hb1 : bt ⟨([120] ++ refL n hex ++ [120]).toArray⟩ ([120] : List UInt8).length = 38 := bt_some (c := 38) rfl
  have hcl := cpB_len n
  have := inlC_one plainO [120] (refL n hex) [120] (esc (cpB n)) (plainK (cpB n)) 59 rfl (by have := cpT_sz n hex; unfold cpT at this; omega) (by rw [refL_len]; omega) (cpT_trim n hex) hx hx (fun g => by rw [hb1]; rfl) (by rw [hb1]; decide) (plainK_sure _) (.inl ⟨_, rfl, rfl, by omega⟩) (fun g W => ?_)
  · exact this
  · refine (cp_call n hex h (.pointer (some ⟨g, 0, none⟩)) W).mono ?_
    rintro e w' ⟨b, rfl, hb, hblk, hbel⟩
    exact ⟨_, rfl, ⟨b, rfl, hblk, hb⟩, hbel⟩
end Go.Proofs.YtpojmloeadodhaaGreatDoor
