/- Texts of this proof, joined: A text with one inline sign in it: how it is read, and what it prints, Small functions that several laws call: a byte in a text, a text some times, the alphabet without a byte, Words among which something stands: a paragraph each; where the parts of a text stand. -/
import Derived.Test.YtmmijmhdbpldpaaGreatDoorCInt11
import Derived.Test.YtmmijmhdbpldpaaGreatDoorCInt02
import Derived.Test.YtmmijmhdbpldpaaGreatDoorCInt01
import Derived.Test.YtmmijmhdbpldpaaGreatDoorCInt03
import Derived.OwnWalk
import Derived.Lib.Bytealg
import Derived.Laws.IdiomStrings
import Derived.Deep.AppendLies
import Derived.Test.YtmmijmhdbpldpaaGreatDoorCInt13
/- A text with one inline sign in it: how it is read, and what it prints. -/

namespace Go.Proofs.YtmmijmhdbpldpaaGreatDoor
open Go.RowKit
def pc (p : List UInt8) : List Kind := if 0 < p.length then [plainK p] else []
theorem pieceK_pre (p q : List UInt8) : pieceK ⟨(p ++ q).toArray⟩ 0 p.length = pc p := by
  unfold pieceK pc
  split
  · simp
  · rfl
theorem pieceK_suf (p q : List UInt8) : pieceK ⟨(p ++ q).toArray⟩ p.length (ByteArray.mk (p ++ q).toArray).size = pc q := by
  unfold pieceK pc
  rw [sz_mk]
  by_cases h : 0 < q.length
  · rw [if_pos (by rw [List.length_append]; omega), if_pos h]
    simp [List.take_of_length_le]
  · rw [if_neg (by rw [List.length_append]; omega), if_neg h]
/-- What the list prints where all that is no plain text prints out. -/
def outX (out : List UInt8) (k : Kind) : List UInt8 := match plainOf k with
  | some l => esc l
  | none => out
theorem outX_plain (out l : List UInt8) : outX out (plainK l) = esc l := by unfold outX; rw [plainOf_plain]
theorem pc_out (out p : List UInt8) : (pc p).flatMap (outX out) = esc p := by
  unfold pc
  split
  · simp [outX_plain]
  · obtain rfl : p = [] := List.length_eq_zero_iff.1 (by omega)
    rfl
theorem pc_plain (p : List UInt8) : ((pc p).filterMap plainOf).flatten.length = p.length := by
  unfold pc
  split
  · simp [plainOf_plain]
  · simp
    omega
theorem pc_mem {p : List UInt8} {k : Kind} (h : k ∈ pc p) : k = plainK p := by
  unfold pc at h
  split at h
  · simpa using h
  · cases h
set_option maxHeartbeats 800000 in
theorem inlC_one (o : Opt) (p r q out : List UInt8) (k : Kind) (f : FuncId) (ha : o.auto_ = false) (hl : (p ++ r ++ q).length ≤ 10000) (hr : 0 < r.length) (htr : trimR (trimL (p ++ r ++ q)) = p ++ r ++ q)
    (hp : ∀ (g : Nat), ∀ c ∈ p, parF o g (c.toNat : Int) = none ∧ c ≠ 96) (hq : ∀ (g : Nat), ∀ c ∈ q, parF o g (c.toNat : Int) = none ∧ c ≠ 96)
    (hpf : ∀ (g : Nat), parF o g (bt ⟨(p ++ r ++ q).toArray⟩ p.length) = some (f, #[])) (h96 : bt ⟨(p ++ r ++ q).toArray⟩ p.length ≠ 96)
    (hks : k.Sure) (hko : (∃ l, k = plainK l ∧ out = esc l ∧ l.length ≤ 10000) ∨ (plainOf k = none ∧ KPrints k out))
    (hcall : ∀ (g : Nat) (W : World), Calls Tryz.prog f #[.pointer (some ⟨g, 0, none⟩), .string ⟨(p ++ r ++ q).toArray⟩, .int .i64 p.length] W fun e w' => ∃ v, e = .returned (.tuple #[v, .int .i64 p.length, .int .i64 ((p.length + r.length : Nat) : Int), .bool true]) ∧ IsItem w' W.heap.size v k ∧ Below W.heap.size W w') :
    InlC o (p ++ r ++ q) (esc p ++ out ++ esc q) := by
  have hlen : (p ++ r ++ q).length = p.length + r.length + q.length := by rw [List.length_append, List.length_append]
  have hpiece : pieceK ⟨(p ++ r ++ q).toArray⟩ 0 p.length = pc p := by
    rw [List.append_assoc]
    exact pieceK_pre _ _
  have hpiece2 : pieceK ⟨(p ++ r ++ q).toArray⟩ (p.length + r.length) (ByteArray.mk (p ++ r ++ q).toArray).size = pc q := by
    have := pieceK_suf (p ++ r) q
    rw [List.length_append] at this
    exact this
  have atp : ∀ i, i < p.length → ∃ c ∈ p, bt ⟨(p ++ r ++ q).toArray⟩ i = (c.toNat : Int) := fun i hi =>
    ⟨p[i], List.getElem_mem hi, bt_some (by rw [List.append_assoc, List.getElem?_append_left hi]; exact List.getElem?_eq_getElem hi)⟩
  have atq : ∀ i, p.length + r.length ≤ i → i < p.length + r.length + q.length → ∃ c ∈ q, bt ⟨(p ++ r ++ q).toArray⟩ i = (c.toNat : Int) := fun i h1 h2 => by
    have h3 : i - (p.length + r.length) < q.length := by omega
    refine ⟨q[i - (p.length + r.length)], List.getElem_mem h3, bt_some ?_⟩
    rw [List.getElem?_append_right (by rw [List.length_append]; omega), List.length_append]
    exact List.getElem?_eq_getElem h3
  have hne96 : ∀ (c : UInt8), c ≠ 96 → (c.toNat : Int) ≠ 96 := fun c hc e => hc (UInt8.toNat_inj.1 (by show c.toNat = 96; omega))
  have houtk : outX out k = out := by
    rcases hko with ⟨l, rfl, rfl, _⟩ | ⟨h1, _⟩
    · exact outX_plain _ _
    · unfold outX; rw [h1]
  have hplk : (([k] : List Kind).filterMap plainOf).flatten.length ≤ 10000 := by
    rcases hko with ⟨l, rfl, _, hl⟩ | ⟨h1, _⟩
    · simp [plainOf_plain]; exact hl
    · simp [h1]
  refine inlC_of o _ _ (fun i em tk _ ks => tk = false ∧ ((em = 0 ∧ ks = [] ∧ i ≤ p.length) ∨ (em = p.length + r.length ∧ ks = pc p ++ [k] ∧ em ≤ i))) (fun ks => ks = pc p ++ [k] ++ pc q) ha (by omega) htr (fun g r' w hps hpar hne _ => ?_) (fun ks hF _ => ?_)
  · refine { start := ⟨rfl, .inl ⟨rfl, rfl, Nat.zero_le _⟩⟩, fin := ?_, quiet := ?_, tick := ?_, call := ?_ }
    · rintro em tk bk ks ⟨_, ⟨rfl, rfl, h⟩ | ⟨rfl, rfl, h⟩⟩
      · rw [sz_mk] at h; omega
      · rw [hpiece2]
    · rintro i em tk bk ks ⟨h0, h⟩ _ hi hn
      rw [sz_mk] at hi
      refine ⟨h0, ?_⟩
      rcases h with ⟨rfl, rfl, h⟩ | ⟨rfl, rfl, h⟩
      · refine .inl ⟨rfl, rfl, ?_⟩
        rcases Nat.lt_or_ge i p.length with h2 | h2
        · omega
        · obtain rfl : i = p.length := by omega
          rw [hpf g] at hn
          cases hn
      · exact .inr ⟨rfl, rfl, by omega⟩
    · rintro i em tk bk ks ⟨h0, h⟩ _ hi h96' _
      rw [sz_mk] at hi
      exfalso
      rcases h with ⟨rfl, rfl, h⟩ | ⟨rfl, rfl, h⟩
      · rcases Nat.lt_or_ge i p.length with h2 | h2
        · obtain ⟨c, hc, e⟩ := atp i h2
          rw [e] at h96'
          exact hne96 c (hp g c hc).2 h96'
        · obtain rfl : i = p.length := by omega
          exact h96 h96'
      · obtain ⟨c, hc, e⟩ := atq i h (by omega)
        rw [e] at h96'
        exact hne96 c (hq g c hc).2 h96'
    · rintro i em tk bk ks f' rv ⟨rfl, h⟩ hei hi hf c W hin hm
      rw [sz_mk] at hi
      rcases h with ⟨rfl, rfl, h⟩ | ⟨rfl, rfl, h⟩
      · rcases Nat.lt_or_ge i p.length with h2 | h2
        · obtain ⟨c, hc, e⟩ := atp i h2
          rw [e, (hp g c hc).1] at hf
          cases hf
        · obtain rfl : i = p.length := by omega
          rw [hpf g] at hf
          simp only [Option.some.injEq, Prod.mk.injEq] at hf
          obtain ⟨rfl, rfl⟩ := hf
          refine (hcall g W).mono ?_
          rintro e w' ⟨v, rfl, hit, hbel⟩
          have hWs : w.heap.size ≤ W.heap.size := hm.size
          have hm1 : Mod (fun k => k = g ∨ w.heap.size ≤ k) W w' := Mod.below hbel (fun k h1 h2 => .inr (Nat.le_trans hWs h2))
          obtain ⟨l, vs, hps1, hrow1, hln1, hit1⟩ := hin
          have hit2 : IsItem w' w.heap.size v k := by
            obtain ⟨b, h1, h2, h3⟩ := hit
            exact ⟨b, h1, h2, Nat.le_trans hWs h3⟩
          refine ⟨c, _, ⟨l, vs, hps1.below hbel, own_mod hrow1 (Mod.below' (S := fun _ => False) hbel) (fun _ _ x => x), hln1, hit1.mod (S := fun _ => False) (Mod.below' hbel) (fun _ _ _ _ _ _ x => x)⟩, hm1, .inr ⟨v, k, p.length, p.length + r.length, rfl, hit2, hks, Nat.zero_le _, by rw [sz_mk]; omega, by omega, by omega, by rw [sz_mk]; omega, by show (false || decide _) = false; rw [Bool.false_or]; exact decide_eq_false h96, .inr ⟨rfl, ?_, Nat.le_refl _⟩⟩⟩
          rw [hpiece]
          rfl
      · obtain ⟨c, hc, e⟩ := atq i h (by omega)
        rw [e, (hq g c hc).1] at hf
        cases hf
  · subst hF
    refine ⟨by simp, ?_, outX out, outX_plain out, fun k' hk hnk => ?_, ?_⟩
    · rw [List.filterMap_append, List.filterMap_append, List.flatten_append, List.flatten_append, List.length_append, List.length_append, pc_plain, pc_plain]
      omega
    · simp only [List.mem_append, List.mem_cons, List.not_mem_nil, or_false] at hk
      rcases hk with (hk | hk) | hk
      · exact absurd (pc_mem hk) (hnk _)
      · subst hk
        rw [houtk]
        rcases hko with ⟨l, e, _, _⟩ | ⟨_, h2⟩
        · exact absurd e (hnk l)
        · exact h2
      · exact absurd (pc_mem hk) (hnk _)
    · rw [List.flatMap_append, List.flatMap_append, pc_out, pc_out]
      simp [houtk]
end Go.Proofs.YtmmijmhdbpldpaaGreatDoor
/- Small functions that several laws call: a byte in a text, a text some times, the alphabet without a byte. -/







namespace Go.Proofs.YtmmijmhdbpldpaaGreatDoor
open Go.RowKit
/-- A truth value is returned, which, where it is true, says P; the world is as it was. -/
def BoolF (P : Prop) (w : World) (e : Ending) (w' : World) : Prop := (∃ b, e = .returned (.bool b) ∧ (b = true → P)) ∧ w = w'
theorem BoolF.no {P : Prop} (w : World) : BoolF P w (.returned (.bool false)) w := ⟨⟨_, rfl, fun h => by cases h⟩, rfl⟩
theorem BoolF.yes {P : Prop} (w : World) (h : P) : BoolF P w (.returned (.bool true)) w := ⟨⟨_, rfl, fun _ => h⟩, rfl⟩
theorem indexByte_mem (l : List UInt8) (c : UInt8) : (c ∈ l → 0 ≤ Lib.indexByte l c) ∧ (c ∉ l → Lib.indexByte l c = -1) := by
  induction l with
  | nil => exact ⟨fun h => (by cases h), fun _ => rfl⟩
  | cons a t ih =>
    unfold Lib.indexByte
    by_cases hac : a = c
    · subst hac
      exact ⟨fun _ => by simp, fun h => absurd (List.mem_cons_self ..) h⟩
    · have hb : (a == c) = false := by simpa using hac
      rw [hb]
      simp only [Bool.false_eq_true, if_false]
      by_cases hm : c ∈ t
      · have h1 := ih.1 hm
        refine ⟨fun _ => ?_, fun h => absurd (List.mem_cons_of_mem _ hm) h⟩
        have : (Lib.indexByte t c == -1) = false := by simp; omega
        rw [this]
        simp
        omega
      · have h1 := ih.2 hm
        refine ⟨fun h => ?_, fun _ => by rw [h1]; rfl⟩
        rcases List.mem_cons.1 h with e | e
        · exact absurd e.symm hac
        · exact absurd e hm
set_option maxRecDepth 100000 in
set_option maxHeartbeats 1000000 in
theorem indexByte_any (s : ByteArray) (c : Int) (w : World) :
    Calls Tryz.prog 26 #[.string s, .int .u8 c] w fun e w' => e = .returned (.int .i64 (Lib.indexByte s.data.toList c.toNat.toUInt8)) ∧ w = w' := by
  go_enter Tryz.func26, Tryz.ntmps26
  go_wp2
  rw [run_callFunc_extern Tryz.func49 (by kernel_rfl) (by kernel_rfl) (by kernel_rfl) (e := Extern.BytealgIndexByte.indexByte) (by kernel_rfl), Lib.run_indexByteString]
  simp only [Result.andThen]
  rw [Oper.upon_value]
  go_wp2
  go_ret
  exact ⟨rfl, rfl⟩
/-- A text of at most m bytes of an alphabet. -/
def OnlyP (l al : List UInt8) (m : Nat) : Prop := l.length ≤ m ∧ ∀ c ∈ l, c ∈ al
def OnlyR (l al : List UInt8) (t14 : Value) : Prop := ∃ k : Nat, k ≤ l.length ∧ t14 = .int .i64 k ∧ ∀ c ∈ l.take k, c ∈ al
set_option maxHeartbeats 800000 in
theorem only_any (l al : List UInt8) (m : Nat) (w : World) (_ : m ≤ 1000000) (_ : l.length ≤ 9223372036854775807) :
    Calls Tryz.prog 10 #[.string ⟨l.toArray⟩, .string ⟨al.toArray⟩, .int .i64 m] w (BoolF (OnlyP l al m) w) := by
  have hz : (ByteArray.mk l.toArray).size = l.length := List.size_toArray ..
  have hbt := hid (fun (k : Nat) (h : k < l.length) => (by rw [bt_list, List.getElem?_eq_getElem h] : bt ⟨l.toArray⟩ k = ((l[k]'h).toNat : Int)))
  have HZ := hid hz
  generalize hs : (ByteArray.mk l.toArray) = s at hz hbt HZ ⊢
  have hb := get_bt s
  clear hs
  by_cases hlm : l.length ≤ m
  · have hlm2 : s.size ≤ m := by omega
    have hd : decide (m < s.size) = false := by simp; omega
    clear hz
    go_enter Tryz.func10, Tryz.ntmps10
    go_wp2_with fail
    go_loop [14] (fun t14 => OnlyR l al t14) (fun t14 => l.length - (intOf t14).toNat)
    case atStart => exact ⟨0, Nat.zero_le _, rfl, by simp⟩
    case round =>
      obtain ⟨k, hk, rfl, hin⟩ := hrel
      have HIN := hid hin
      clear hin
      by_cases hlt : k < l.length
      · have hks : k < s.size := by have := HZ.out; omega
        have hck := hid (hbt.out k hlt)
        have hu8 : Hid ((bt s k).toNat.toUInt8 = l[k]'hlt) := hid (by rw [hck.out]; simp)
        have htk := hid (show l.take (k + 1) = l.take k ++ [l[k]'hlt] by rw [List.take_add_one, List.getElem?_eq_getElem hlt]; rfl)
        have hmem := hid (indexByte_mem al (l[k]'hlt))
        generalize l[k]'hlt = c at hck hu8 htk hmem
        go_wp2_with fail
        refine (indexByte_any ⟨al.toArray⟩ (bt s k) w).mono ?_
        rintro e w' ⟨rfl, rfl⟩
        rw [hu8.out]
        by_cases hc : c ∈ al
        · have h0 := hmem.out.1 hc
          have h1 : ¬ Lib.indexByte al c < 0 := by omega
          go_wp2_with fail
          go_round
          case rel => exact ⟨k + 1, by omega, by go_num, by rw [htk.out]; intro x hx; rcases List.mem_append.1 hx with hx | hx; (· exact HIN.out x hx); (simp at hx; subst hx; exact hc)⟩
          case measure => simp [intOf]; omega
        · have h0 := hmem.out.2 hc
          have h1 : Lib.indexByte al c < 0 := by omega
          clear h0
          go_wp2_with fail
          go_ret
          exact BoolF.no _
      · obtain rfl : k = l.length := by omega
        have hks : ¬ l.length < s.size := by have := HZ.out; omega
        go_wp2_with fail
        go_ret
        exact BoolF.yes _ ⟨hlm, by have := HIN.out; rwa [List.take_of_length_le (Nat.le_refl _)] at this⟩
  · have hlm2 : m < s.size := by omega
    clear hz
    go_enter Tryz.func10, Tryz.ntmps10
    go_wp2_with fail
    go_ret
    exact BoolF.no _
/-- A sign, so and so often. -/
def repF (k : Nat) (c : UInt8) : ByteArray := ⟨(List.replicate k c).toArray⟩
theorem repF_succ (k : Nat) (c : UInt8) : repF k c ++ (ByteArray.mk #[c]) = repF (k + 1) c := by
  unfold repF
  rw [show (ByteArray.mk #[c]) = ⟨[c].toArray⟩ from rfl, cat_lists, List.replicate_succ']
theorem repF_size (k : Nat) (c : UInt8) : (repF k c).size = k := by simp [repF, ByteArray.size]
end Go.Proofs.YtmmijmhdbpldpaaGreatDoor
/- Words among which something stands: a paragraph each; where the parts of a text stand. -/


namespace Go.Proofs.YtmmijmhdbpldpaaGreatDoor
open Go.RowKit
structure WordL (l : List UInt8) : Prop where
  pos : 0 < l.length
  len : l.length ≤ 20
  chr : ∀ c ∈ l, c ∈ wcs
theorem word_any (l : List UInt8) (w : World) (hl : l.length ≤ 9223372036854775807) : Calls Tryz.prog 9 #[.string ⟨l.toArray⟩] w (BoolF (WordL l) w) := by
  have HO := hid (only_any l wcs 20 w (by omega) hl)
  cases l with
  | nil =>
    go_enter Tryz.func9, Tryz.ntmps9
    go_wp2_with fail
    go_ret
    exact BoolF.no w
  | cons c r =>
    go_enter Tryz.func9, Tryz.ntmps9
    go_wp2_with fail
    refine HO.out.mono ?_
    rintro e w' ⟨⟨b, rfl, hb⟩, rfl⟩
    cases b with
    | false =>
      go_wp2_with fail
      go_ret
      exact BoolF.no w
    | true =>
      obtain ⟨h1, h2⟩ := hb rfl
      go_wp2_with fail
      go_ret
      exact BoolF.yes w ⟨by simp, h1, h2⟩
theorem wcs_no {c : UInt8} (h : c ∈ wcs) : c ≠ 32 ∧ c ≠ 9 := by
  revert c; decide
theorem WordL.cons {a : List UInt8} (h : WordL a) : ∃ c r, a = c :: r ∧ c ∈ wcs := by
  cases a with
  | nil => have := h.pos; simp at this
  | cons c r => exact ⟨c, r, rfl, h.chr c (List.mem_cons_self ..)⟩
/-- A word, a space and printable text behind are a paragraph's line. -/
theorem wordSp_line (a rest : List UInt8) (ha : WordL a) (hr : ∀ c ∈ rest, 32 ≤ c.toNat) (hl : rest.length ≤ 90000) : ParLine ⟨(a ++ 32 :: rest).toArray⟩ := by
  obtain ⟨c0, r, rfl, hc0⟩ := ha.cons
  have hlen := ha.len
  have hsz : (ByteArray.mk ((c0 :: r) ++ 32 :: rest).toArray).size ≤ 100000 := by rw [sz_mk, List.length_append]; simp only [List.length_cons] at hlen ⊢; omega
  have hb : bt ⟨((c0 :: r) ++ 32 :: rest).toArray⟩ 0 = (c0.toNat : Int) := bt_some rfl
  have htab : ∀ k, bt ⟨((c0 :: r) ++ 32 :: rest).toArray⟩ k ≠ 9 := fun k => bt_mem _ k (fun z => z ≠ 9) (by decide) (fun c hc => by
    rcases List.mem_append.1 hc with h | h
    · have := ha.chr c h
      revert this
      exact (by decide : ∀ c ∈ wcs, (c.toNat : Int) ≠ 9) c
    · rcases List.mem_cons.1 h with rfl | h
      · decide
      · have := hr c h
        omega)
  have first : ∀ (P : Int → Prop), (∀ c ∈ wcs, P (c.toNat : Int)) → P (bt ⟨((c0 :: r) ++ 32 :: rest).toArray⟩ 0) := fun P hc => by rw [hb]; exact hc c0 hc0
  have h32 := first (fun z => z ≠ 32) (by decide)
  refine { size := hsz, pos := by rw [sz_mk]; simp, tab := htab, q := fun k hk => by rw [reach0 h32 hk]; exact first (fun z => z ≠ 62 ∧ z ≠ 35) (by decide), h32 := h32, hr := first (fun z => z ≠ 42 ∧ z ≠ 45 ∧ z ≠ 95) (by decide), lt_ := first (fun z => z ≠ 60) (by decide), fence := first (fun z => z ≠ 126) (by decide), tick := first (fun z => z ≠ 96) (by decide), item := ?_ }
  intro g b nl w hw
  by_cases hd : bt ⟨((c0 :: r) ++ 32 :: rest).toArray⟩ 0 = 48 ∨ bt ⟨((c0 :: r) ++ 32 :: rest).toArray⟩ 0 = 49 ∨ bt ⟨((c0 :: r) ++ 32 :: rest).toArray⟩ 0 = 57
  · refine startListItem_dig g b nl _ w hw hsz htab hd (fun k hk => ?_)
    have hL : ((c0 :: r) ++ 32 :: rest)[(c0 :: r).length]? = some 32 := by
      rw [List.getElem?_append_right (Nat.le_refl _), Nat.sub_self]
      rfl
    rcases Nat.lt_trichotomy k (c0 :: r).length with h | h | h
    · have e : ((c0 :: r) ++ 32 :: rest)[k]? = some (c0 :: r)[k] := by rw [List.getElem?_append_left h]; exact List.getElem?_eq_getElem h
      rw [bt_some e]
      have := ha.chr _ (List.getElem_mem h)
      revert this
      exact (by decide : ∀ c ∈ wcs, (c.toNat : Int) ≠ 46 ∧ (c.toNat : Int) ≠ 41) _
    · rw [h, bt_some hL]
      decide
    · have := hk _ h
      rw [bt_some hL] at this
      exact absurd this.1 (by decide)
  · refine startListItem_no g b 0 0 nl _ w hw (by omega) (Nat.zero_le _) htab (fun k hk => ?_)
    rw [reach0 h32 hk]
    have := first (fun z => z = 48 ∨ z = 49 ∨ z = 57 ∨ NoItem z) (by unfold NoItem; decide)
    rcases this with e | e | e | e
    · exact absurd (.inl e) hd
    · exact absurd (.inr (.inl e)) hd
    · exact absurd (.inr (.inr e)) hd
    · exact e
/-- Where the middle part of a text stands. -/
theorem at_mid {t p q r : List UInt8} (e : t = p ++ q ++ r) (m : Nat) (h1 : p.length ≤ m) (h2 : m < p.length + q.length) : ∃ c ∈ q, bt ⟨t.toArray⟩ m = (c.toNat : Int) := by
  have h3 : m - p.length < q.length := by omega
  refine ⟨q[m - p.length], List.getElem_mem h3, bt_some ?_⟩
  rw [e, List.append_assoc, List.getElem?_append_right h1, List.getElem?_append_left h3]
  exact List.getElem?_eq_getElem h3
theorem ext_mid {t p q r : List UInt8} (e : t = p ++ q ++ r) (a b : Nat) (ha : a = p.length) (hb : b = p.length + q.length) : (ByteArray.mk t.toArray).extract a b = ⟨q.toArray⟩ := by
  subst ha hb
  rw [extract_mk]
  have h1 : t.take (p.length + q.length) = p ++ q := by
    rw [e]
    exact List.take_left' (by rw [List.length_append])
  have h2 : (p ++ q).drop p.length = q := List.drop_left' rfl
  show ByteArray.mk ((t.take (p.length + q.length)).drop p.length).toArray = _
  rw [h1, h2]
/-- A text without signs, of which autoLinkText makes something. -/
theorem inlC_quietA (o : Opt) (t out : List UInt8) (hl : t.length ≤ 100000) (hp : 0 < t.length) (htr : trimR (trimL t) = t) (hq : ∀ (g : Nat), ∀ c ∈ t, parF o g (c.toNat : Int) = none ∧ c ≠ 96) (ha : ∀ B g r, AutP o B g r out [plainK t]) : InlC o t out := by
  intro g r w hps hpar hne hbk
  refine inline_loop o g r ⟨t.toArray⟩ ⟨t.toArray⟩ w (fun _ em tk _ ks => em = 0 ∧ tk = false ∧ ks = []) (fun ks => ks = [plainK t]) hps hpar hne out (bsz hl) (by simp only [htr]) (bsz hl) ?_ (fun ks hF _ => ?_)
  · refine { start := ⟨rfl, rfl, rfl⟩, fin := ?_, quiet := ?_, tick := ?_, call := ?_ }
    · rintro em tk bk ks ⟨rfl, rfl, rfl⟩
      exact piece_all t hp
    · intro i em tk bk ks h _ _ _
      exact h
    · intro i em tk bk ks _ _ hi h96 _
      rw [sz_mk] at hi
      obtain ⟨c, _, h2, h3⟩ := bt_get hi
      rw [h3] at h96
      exact absurd (UInt8.toNat_inj.1 (by rw [show (96 : UInt8).toNat = 96 from rfl]; omega)) (hq 0 c h2).2
    · intro i em tk bk ks f rv _ _ hi hpf
      rw [sz_mk] at hi
      obtain ⟨c, _, h2, h3⟩ := bt_get hi
      rw [h3, (hq g c h2).1] at hpf
      cases hpf
  · subst hF
    have hm : mergeA [] [plainK t] = [plainK t] := by
      rw [mergeA_plain, mergeA, flushK]
      simp
    rw [hm]
    exact ⟨by simp, by simp [plainOf_plain]; omega, ha _ _ _⟩
end Go.Proofs.YtmmijmhdbpldpaaGreatDoor
/- A text of several lines of letters, a tag behind the last one or not: how it is read. -/


namespace Go.Proofs.YtmmijmhdbpldpaaGreatDoor
open Go.RowKit
def softK : Kind := ⟨193, 194, []⟩
def tagK (l : List UInt8) : Kind := ⟨286, 287, [lineV l]⟩
theorem soft_not (l : List UInt8) : softK ≠ plainK l := by
  intro e
  have h : (194 : Nat) = 137 := congrArg Kind.tb e
  exact absurd h (by decide)
/-- Small letters. -/
def abc : List UInt8 := [97, 98, 99, 100, 101, 102, 103, 104, 105, 106, 107, 108, 109, 110, 111, 112, 113, 114, 115, 116, 117, 118, 119, 120, 121, 122]
structure LinL (l : List UInt8) : Prop where
  pos : 0 < l.length
  chr : ∀ c ∈ l, c ∈ abc
theorem abc_parF (o : Opt) (g : Nat) : ∀ c ∈ abc, parF o g (c.toNat : Int) = none := by
  intro c hc
  have h : ∀ c ∈ abc, 97 ≤ (c.toNat : Int) ∧ (c.toNat : Int) ≤ 122 := by unfold abc; decide
  obtain ⟨h1, h2⟩ := h c hc
  unfold parF
  rw [if_neg (by omega), if_neg (by omega), if_neg (by omega), if_neg (by omega), if_neg (by omega), if_neg (by omega), if_neg (by omega), if_neg (by omega), if_neg (by omega), if_neg (by omega), if_neg (by omega), if_neg (by omega), if_neg (by omega)]
theorem abc_quiet : ∀ c ∈ abc, (c.toNat : Int) ≠ 96 ∧ (c.toNat : Int) ≠ 32 ∧ (c.toNat : Int) ≠ 9 ∧ (c.toNat : Int) ≠ 10 ∧ (c.toNat : Int) ≠ 60 := by unfold abc; decide
theorem abc_esc {l : List UInt8} (h : ∀ c ∈ l, c ∈ abc) : esc l = l := by
  have key : ∀ c ∈ abc, esc [c] = [c] := by unfold abc; decide
  induction l with
  | nil => rfl
  | cons c l ih =>
    have h3 : esc (c :: l) = esc [c] ++ esc l := by unfold esc; simp
    rw [h3, key c (h c (List.mem_cons_self ..)), ih (fun x hx => h x (List.mem_cons_of_mem _ hx))]
    rfl
/-- The further lines of a text. -/
def tailN (ls : List (List UInt8)) : List UInt8 := ls.flatMap (fun l => 10 :: l)
theorem tailN_cons (l : List UInt8) (ls : List (List UInt8)) : tailN (l :: ls) = 10 :: (l ++ tailN ls) := by unfold tailN; simp
/-- What stands behind the lines: nothing, or a tag in a line of its own. -/
def tagT (tg : Bool) (q : List UInt8) : List UInt8 := if tg then 10 :: q else []
def outN (q : List UInt8) (k : Kind) : List UInt8 := match plainOf k with
  | some l => esc l
  | none => if k.tb = 194 then [10] else q
theorem outN_plain (q l : List UInt8) : outN q (plainK l) = esc l := by unfold outN; rw [plainOf_plain]
/-- What has been read: A. -/
structure KsO (q : List UInt8) (A : List UInt8) (ks : List Kind) : Prop where
  out : ks.flatMap (outN q) = A
  kind : ∀ k ∈ ks, k = softK ∨ k = tagK q ∨ ∃ l, k = plainK l
  plain : (ks.filterMap plainOf).flatten.length ≤ A.length
theorem KsO.nil (q : List UInt8) : KsO q [] [] := ⟨rfl, fun k h => (by cases h), Nat.le_refl _⟩
theorem plainOf_soft : plainOf softK = none := by rfl
theorem plainOf_tag (q : List UInt8) : plainOf (tagK q) = none := by rfl
theorem KsO.plainS {q A l : List UInt8} {ks : List Kind} (h : KsO q A ks) (hl : ∀ c ∈ l, c ∈ abc) : KsO q (A ++ l) (ks ++ [plainK l]) where
  out := by rw [List.flatMap_append, h.out]; simp [outN_plain, abc_esc hl]
  kind := fun k hk => by
    rcases List.mem_append.1 hk with hk | hk
    · exact h.kind k hk
    · simp only [List.mem_cons, List.not_mem_nil, or_false] at hk
      exact .inr (.inr ⟨l, hk⟩)
  plain := by
    have := h.plain
    have h2 : (([plainK l] : List Kind).filterMap plainOf).flatten.length = l.length := by simp [plainOf_plain]
    rw [List.filterMap_append, List.flatten_append, List.length_append, List.length_append, h2]
    omega
theorem KsO.softS {q A : List UInt8} {ks : List Kind} (h : KsO q A ks) : KsO q (A ++ [10]) (ks ++ [softK]) where
  out := by
    rw [List.flatMap_append, h.out]
    have : outN q softK = [10] := by unfold outN; rw [plainOf_soft]; rfl
    simp [this]
  kind := fun k hk => by
    rcases List.mem_append.1 hk with hk | hk
    · exact h.kind k hk
    · simp only [List.mem_cons, List.not_mem_nil, or_false] at hk
      exact .inl hk
  plain := by
    have := h.plain
    have h2 : (([softK] : List Kind).filterMap plainOf).flatten.length = 0 := by simp [plainOf_soft]
    rw [List.filterMap_append, List.flatten_append, List.length_append, List.length_append, h2]
    omega
theorem KsO.tagS {q A : List UInt8} {ks : List Kind} (h : KsO q A ks) : KsO q (A ++ q) (ks ++ [tagK q]) where
  out := by
    rw [List.flatMap_append, h.out]
    have : outN q (tagK q) = q := by
      unfold outN
      rw [plainOf_tag]
      exact if_neg (by show ¬ (287 = 194); decide)
    simp [this]
  kind := fun k hk => by
    rcases List.mem_append.1 hk with hk | hk
    · exact h.kind k hk
    · simp only [List.mem_cons, List.not_mem_nil, or_false] at hk
      exact .inr (.inl hk)
  plain := by
    have := h.plain
    have h2 : (([tagK q] : List Kind).filterMap plainOf).flatten.length = 0 := by simp [plainOf_tag]
    rw [List.filterMap_append, List.flatten_append, List.length_append, List.length_append, h2]
    omega
/-- How far the text has been read. -/
def linJ (T q : List UInt8) (tg : Bool) (i em : Nat) (tk : Bool) (ks : List Kind) : Prop := tk = false ∧
  ((∃ A l ls, T = A ++ (l ++ (tailN ls ++ tagT tg q)) ∧ em = A.length ∧ em ≤ i ∧ i ≤ em + l.length ∧ LinL l ∧ (∀ x ∈ ls, LinL x) ∧ KsO q A ks) ∨
   (∃ A, tg = true ∧ T = A ++ q ∧ em = A.length ∧ i = em ∧ KsO q A ks) ∨
   (tg = true ∧ i = T.length ∧ em = T.length ∧ KsO q T ks))
theorem piece_mid (A l R : List UInt8) (h : 0 < l.length) : pieceK ⟨(A ++ (l ++ R)).toArray⟩ A.length (A.length + l.length) = [plainK l] := by
  unfold pieceK
  rw [if_pos (by omega)]
  have h2 : ((A ++ (l ++ R)).take (A.length + l.length)).drop A.length = l := by rw [← List.append_assoc, List.take_left' (by simp), List.drop_left' rfl]
  show [plainK (((A ++ (l ++ R)).toArray.toList.take (A.length + l.length)).drop A.length)] = _
  rw [List.toList_toArray, h2]
theorem lin_one {t p r : List UInt8} {c : UInt8} (e : t = p ++ [c] ++ r) (m : Nat) (hm : m = p.length) : bt ⟨t.toArray⟩ m = (c.toNat : Int) := by
  obtain ⟨x, hx, h⟩ := at_mid e m (by omega) (by simp <;> omega)
  simp only [List.mem_cons, List.not_mem_nil, or_false] at hx
  rw [h, hx]
theorem LinL.last {l : List UInt8} (h : LinL l) : ∃ p x, l = p ++ [x] ∧ x ∈ abc := by
  have hne : l ≠ [] := List.length_pos_iff.1 h.pos
  exact ⟨l.dropLast, l.getLast hne, (List.dropLast_concat_getLast hne).symm, h.chr _ (List.getLast_mem hne)⟩
theorem LinL.first {l : List UInt8} (h : LinL l) : ∃ x p, l = x :: p ∧ x ∈ abc := by
  cases hl : l with
  | nil => have := h.pos; rw [hl] at this; simp at this
  | cons x p => exact ⟨x, p, rfl, h.chr x (by rw [hl]; exact List.mem_cons_self ..)⟩
theorem lin_last (ls : List (List UInt8)) : ∀ l0, LinL l0 → (∀ x ∈ ls, LinL x) → ∃ p x, l0 ++ tailN ls = p ++ [x] ∧ x ∈ abc := by
  induction ls with
  | nil =>
    intro l0 h0 _
    obtain ⟨p, x, e, hx⟩ := h0.last
    exact ⟨p, x, by rw [e]; simp [tailN], hx⟩
  | cons l ls ih =>
    intro l0 _ h
    obtain ⟨p, x, e, hx⟩ := ih l (h l (List.mem_cons_self ..)) (fun y hy => h y (List.mem_cons_of_mem _ hy))
    exact ⟨l0 ++ 10 :: p, x, by rw [tailN_cons, e]; simp, hx⟩
theorem trim_ends {T p : List UInt8} {x y : UInt8} {r : List UInt8} (e1 : T = y :: r) (hy : isST y = false) (e2 : T = p ++ [x]) (hx : isST x = false) : trimR (trimL T) = T := by
  have h1 : trimL T = T := by
    rw [e1]
    unfold trimL
    rw [List.dropWhile_cons, hy]
    rfl
  rw [h1, e2]
  unfold trimR
  rw [List.reverse_append, List.reverse_cons, List.reverse_nil, List.nil_append, List.singleton_append, List.dropWhile_cons, hx]
  simp
set_option maxHeartbeats 800000 in
theorem inlC_lines (o : Opt) (ha : o.auto_ = false) (q l0 : List UInt8) (ls : List (List UInt8)) (tg : Bool) (h0 : LinL l0) (hls : ∀ x ∈ ls, LinL x) (hl : (l0 ++ (tailN ls ++ tagT tg q)).length ≤ 10000) (hq : q[0]? = some 60) (hqt : ∃ p, q = p ++ [62])
    (htag : tg = true → ∀ (g : Nat) (A : List UInt8) (W : World), A.length ≤ 10000 → Calls Tryz.prog 68 #[.pointer (some ⟨g, 0, none⟩), .string ⟨(A ++ q).toArray⟩, .int .i64 A.length] W fun e w' => ∃ v, e = .returned (.tuple #[v, .int .i64 A.length, .int .i64 ((A.length + q.length : Nat) : Int), .bool true]) ∧ IsItem w' W.heap.size v (tagK q) ∧ Below W.heap.size W w')
    (hbrk : ∀ (g : Nat) (s : ByteArray) (i : Nat) (W : World), 0 < i → i + 1 < s.size → s.size ≤ 10000 → bt s (i - 1) ≠ 32 → bt s (i - 1) ≠ 9 → bt s (i + 1) ≠ 32 → bt s (i + 1) ≠ 9 → Calls Tryz.prog 74 #[.pointer (some ⟨g, 0, none⟩), .string s, .int .i64 i] W fun e w' => ∃ v, e = .returned (.tuple #[v, .int .i64 i, .int .i64 ((i + 1 : Nat) : Int), .bool true]) ∧ IsItem w' W.heap.size v softK ∧ Below W.heap.size W w')
    (hks1 : softK.Sure) (hks2 : (tagK q).Sure) (hp1 : KPrints softK [10]) (hp2 : KPrints (tagK q) q) :
    InlC o (l0 ++ (tailN ls ++ tagT tg q)) (l0 ++ (tailN ls ++ tagT tg q)) := by
  have hT : ∃ T, T = l0 ++ (tailN ls ++ tagT tg q) := ⟨_, rfl⟩
  obtain ⟨T, hT⟩ := hT
  rw [← hT] at hl ⊢
  have hsz : (ByteArray.mk T.toArray).size = T.length := sz_mk T
  have abcST : ∀ c ∈ abc, isST c = false := by unfold abc; decide
  have htr : trimR (trimL T) = T := by
    obtain ⟨y, r, e1, hy⟩ := h0.first
    have e1' : T = y :: (r ++ (tailN ls ++ tagT tg q)) := by rw [hT, e1]; rfl
    cases tg with
    | false =>
      obtain ⟨p, x, e2, hx⟩ := lin_last ls l0 h0 hls
      exact trim_ends e1' (abcST y hy) (p := p) (x := x) (by rw [hT, ← e2]; simp [tagT]) (abcST x hx)
    | true =>
      obtain ⟨p, e2⟩ := hqt
      exact trim_ends e1' (abcST y hy) (p := l0 ++ (tailN ls ++ 10 :: p)) (x := 62) (by rw [hT, e2]; simp [tagT]) (by decide)
  have hqp : 0 < q.length := by
    obtain ⟨p, e⟩ := hqt
    rw [e]; simp
  have hbt : ∀ A l R, T = A ++ (l ++ R) → LinL l → ∀ i, A.length ≤ i → i < A.length + l.length → ∃ c ∈ abc, bt ⟨T.toArray⟩ i = (c.toNat : Int) := fun A l R e hL i h1 h2 => by
    obtain ⟨c, hc, h⟩ := at_mid (t := T) (p := A) (q := l) (r := R) (by rw [e, List.append_assoc]) i h1 h2
    exact ⟨c, hL.chr c hc, h⟩
  refine inlC_of o T T (fun i em tk _ ks => linJ T q tg i em tk ks) (fun ks => ks ≠ [] ∧ KsO q T ks) ha (by omega) htr (fun g r' w hps hpar hne _ => ?_) (fun ks hF _ => ?_)
  · refine { start := ⟨rfl, .inl ⟨[], l0, ls, hT, rfl, Nat.le_refl _, by simp, h0, hls, KsO.nil q⟩⟩, fin := ?_, quiet := ?_, tick := ?_, call := ?_ }
    · rintro em tk bk ks ⟨_, ⟨A, l, ls', e, rfl, h1, h2, hL, hLs, hK⟩ | ⟨A, htg, e, rfl, h1, hK⟩ | ⟨htg, h1, rfl, hK⟩⟩
      · rw [hsz] at h1 h2 ⊢
        have hlen := congrArg List.length e
        simp only [List.length_append] at hlen
        have hz : tailN ls' ++ tagT tg q = [] := List.length_eq_zero_iff.1 (by rw [List.length_append]; omega)
        rw [hz] at e
        have e' : T = A ++ l := by rw [e]; simp
        have hp := piece_mid A l [] hL.pos
        rw [← e] at hp
        have hzl : T.length = A.length + l.length := by rw [e']; simp
        rw [hzl, hp]
        refine ⟨by simp, ?_⟩
        rw [e']
        exact hK.plainS hL.chr
      · rw [hsz] at h1
        have hlen := congrArg List.length e
        rw [List.length_append] at hlen
        omega
      · rw [hsz]
        have hp : pieceK ⟨T.toArray⟩ T.length T.length = [] := by unfold pieceK; rw [if_neg (Nat.lt_irrefl _)]
        rw [hp, List.append_nil]
        refine ⟨fun e => ?_, hK⟩
        have h2 := hK.out
        rw [e] at h2
        have : T.length = 0 := by rw [← h2]; rfl
        have := h0.pos
        rw [hT] at *
        simp only [List.length_append] at *
        omega
    · rintro i em tk bk ks ⟨ht, ⟨A, l, ls', e, rfl, h1, h2, hL, hLs, hK⟩ | ⟨A, htg, e, rfl, h1, hK⟩ | ⟨htg, h1, rfl, hK⟩⟩ hei hi hn
      · refine ⟨ht, .inl ⟨A, l, ls', e, rfl, by omega, ?_, hL, hLs, hK⟩⟩
        rcases Nat.lt_or_ge i (A.length + l.length) with h3 | h3
        · omega
        · exfalso
          obtain rfl : i = A.length + l.length := by omega
          rw [hsz] at hi
          have hlen := congrArg List.length e
          simp only [List.length_append] at hlen
          have h10 : ∃ R, T = (A ++ l) ++ [10] ++ R := by
            cases ls' with
            | cons x xs => exact ⟨x ++ (tailN xs ++ tagT tg q), by rw [e, tailN_cons]; simp⟩
            | nil =>
              cases tg with
              | true => exact ⟨q, by rw [e]; simp [tailN, tagT]⟩
              | false => simp [tailN, tagT] at hlen; omega
          obtain ⟨R, hR⟩ := h10
          rw [lin_one hR _ (by rw [List.length_append])] at hn
          cases hn
      · exfalso
        subst h1
        obtain ⟨p, hp⟩ : ∃ p, q = 60 :: p := by
          cases q with
          | nil => cases hq
          | cons x p => simp only [List.getElem?_cons_zero, Option.some.injEq] at hq; subst hq; exact ⟨p, rfl⟩
        rw [lin_one (t := T) (p := A) (c := 60) (r := p) (by rw [e, hp]; simp) _ rfl] at hn
        cases hn
      · rw [hsz] at hi; omega
    · rintro i em tk bk ks ⟨ht, h⟩ hei hi h96 _
      exfalso
      rcases h with ⟨A, l, ls', e, rfl, h1, h2, hL, hLs, hK⟩ | ⟨A, htg, e, rfl, h1, hK⟩ | ⟨htg, h1, rfl, hK⟩
      · rcases Nat.lt_or_ge i (A.length + l.length) with h3 | h3
        · obtain ⟨c, hc, e3⟩ := hbt A l _ e hL i h1 h3
          rw [e3] at h96
          exact (abc_quiet c hc).1 h96
        · obtain rfl : i = A.length + l.length := by omega
          rw [hsz] at hi
          have hlen := congrArg List.length e
          simp only [List.length_append] at hlen
          have h10 : ∃ R, T = (A ++ l) ++ [10] ++ R := by
            cases ls' with
            | cons x xs => exact ⟨x ++ (tailN xs ++ tagT tg q), by rw [e, tailN_cons]; simp⟩
            | nil =>
              cases tg with
              | true => exact ⟨q, by rw [e]; simp [tailN, tagT]⟩
              | false => simp [tailN, tagT] at hlen; omega
          obtain ⟨R, hR⟩ := h10
          rw [lin_one hR _ (by rw [List.length_append])] at h96
          revert h96
          decide
      · subst h1
        obtain ⟨p, hp⟩ : ∃ p, q = 60 :: p := by
          cases q with
          | nil => cases hq
          | cons x p => simp only [List.getElem?_cons_zero, Option.some.injEq] at hq; subst hq; exact ⟨p, rfl⟩
        rw [lin_one (t := T) (p := A) (c := 60) (r := p) (by rw [e, hp]; simp) _ rfl] at h96
        revert h96
        decide
      · rw [hsz] at hi; omega
    · rintro i em tk bk ks f' rv ⟨rfl, h⟩ hei hi hf c W hin hm
      have hWs : w.heap.size ≤ W.heap.size := hm.size
      have close : ∀ (w' : World) (v : Value) (k : Kind) (en : Nat) (e' : Ending), e' = .returned (.tuple #[v, .int .i64 i, .int .i64 (en : Int), .bool true]) → IsItem w' W.heap.size v k → Below W.heap.size W w' → k.Sure → em ≤ i → i ≤ T.length → i < en → en ≤ T.length → tkAt (bt ⟨T.toArray⟩ i) false = false → linJ T q tg en en false (ks ++ pieceK ⟨T.toArray⟩ em i ++ [k]) → ParP w.heap.size g r' ⟨T.toArray⟩ (fun i em tk _ ks => linJ T q tg i em tk ks) i em (tkAt (bt ⟨T.toArray⟩ i) false) ks W e' w' := by
        intro w' v k en e' he hit hbel hks q1 q2 q3 q4 q5 q6
        subst he
        have hm1 : Mod (fun k => k = g ∨ w.heap.size ≤ k) W w' := Mod.below hbel (fun k h1 h2 => .inr (Nat.le_trans hWs h2))
        obtain ⟨l, vs, hps1, hrow1, hln1, hit1⟩ := hin
        have hit2 : IsItem w' w.heap.size v k := by
          obtain ⟨b, h1, h2, h3⟩ := hit
          exact ⟨b, h1, h2, Nat.le_trans hWs h3⟩
        refine ⟨c, _, ⟨l, vs, hps1.below hbel, own_mod hrow1 (Mod.below' (S := fun _ => False) hbel) (fun _ _ x => x), hln1, hit1.mod (S := fun _ => False) (Mod.below' hbel) (fun _ _ _ _ _ _ x => x)⟩, hm1, .inr ⟨v, k, i, en, rfl, hit2, hks, q1, by rw [hsz]; exact q2, q3, by omega, by rw [hsz]; exact q4, ?_⟩⟩
        rw [q5]
        exact q6
      rw [hsz] at hi
      rcases h with ⟨A, l, ls', e, rfl, h1, h2, hL, hLs, hK⟩ | ⟨A, htg, e, rfl, h1, hK⟩ | ⟨htg, h1, rfl, hK⟩
      · have hlen := congrArg List.length e
        simp only [List.length_append] at hlen
        rcases Nat.lt_or_ge i (A.length + l.length) with h3 | h3
        · obtain ⟨c, hc, e3⟩ := hbt A l _ e hL i h1 h3
          rw [e3, abc_parF o g c hc] at hf
          cases hf
        · obtain rfl : i = A.length + l.length := by omega
          obtain ⟨z, y, hz, hy⟩ := hL.last
          have hAz : T = (A ++ z) ++ [y] ++ (tailN ls' ++ tagT tg q) := by rw [e, hz]; simp
          have hly : l.length = z.length + 1 := by rw [hz]; simp
          have hpre : bt ⟨T.toArray⟩ (A.length + l.length - 1) = (y.toNat : Int) := lin_one hAz _ (by rw [List.length_append]; omega)
          have hp := piece_mid A l (tailN ls' ++ tagT tg q) hL.pos
          rw [← e] at hp
          obtain ⟨_, y1, y2, _, _⟩ := abc_quiet y hy
          cases ls' with
          | cons x xs =>
            have hx := hLs x (List.mem_cons_self ..)
            obtain ⟨u, v, hu, hua⟩ := hx.first
            have hA10 : T = (A ++ l) ++ [10] ++ (x ++ (tailN xs ++ tagT tg q)) := by rw [e, tailN_cons]; simp
            have hAu : T = (A ++ l ++ [10]) ++ [u] ++ (v ++ (tailN xs ++ tagT tg q)) := by rw [hA10, hu]; simp
            have b10 := lin_one hA10 (A.length + l.length) (by rw [List.length_append])
            have bu := lin_one hAu (A.length + l.length + 1) (by simp <;> omega)
            obtain ⟨_, u1, u2, _, _⟩ := abc_quiet u hua
            have hlx := congrArg List.length hA10
            have hxp := hx.pos
            simp only [List.length_append, List.length_cons, List.length_nil] at hlx
            rw [b10] at hf
            have hf' : some (74, (#[] : Array Value)) = some (f', rv) := hf
            simp only [Option.some.injEq, Prod.mk.injEq] at hf'
            obtain ⟨rfl, rfl⟩ := hf'
            refine (hbrk g ⟨T.toArray⟩ (A.length + l.length) W (by have := hL.pos; omega) (by rw [hsz]; omega) (by rw [hsz]; omega) (by rw [hpre]; exact y1) (by rw [hpre]; exact y2) (by rw [bu]; exact u1) (by rw [bu]; exact u2)).mono ?_
            rintro e' w' ⟨v', he, hit, hbel⟩
            refine close w' v' softK _ e' he hit hbel hks1 (by omega) (by omega) (by omega) (by omega) (by rw [b10]; rfl) ⟨rfl, .inl ⟨A ++ l ++ [10], x, xs, hA10, by simp <;> omega, Nat.le_refl _, by omega, hx, fun y hy => hLs y (List.mem_cons_of_mem _ hy), ?_⟩⟩
            rw [hp]
            exact (hK.plainS hL.chr).softS
          | nil =>
            cases tg with
            | false => simp [tailN, tagT] at hlen; omega
            | true =>
              obtain ⟨p, hqp'⟩ : ∃ p, q = 60 :: p := by
                cases q with
                | nil => cases hq
                | cons x p => simp only [List.getElem?_cons_zero, Option.some.injEq] at hq; subst hq; exact ⟨p, rfl⟩
              have hA10 : T = (A ++ l) ++ [10] ++ q := by rw [e]; simp [tailN, tagT]
              have hAu : T = (A ++ l ++ [10]) ++ [60] ++ p := by rw [hA10, hqp']; simp
              have b10 := lin_one hA10 (A.length + l.length) (by rw [List.length_append])
              have bu := lin_one hAu (A.length + l.length + 1) (by simp <;> omega)
              have hlx := congrArg List.length hA10
              simp only [List.length_append, List.length_cons, List.length_nil] at hlx
              rw [b10] at hf
              have hf' : some (74, (#[] : Array Value)) = some (f', rv) := hf
              simp only [Option.some.injEq, Prod.mk.injEq] at hf'
              obtain ⟨rfl, rfl⟩ := hf'
              refine (hbrk g ⟨T.toArray⟩ (A.length + l.length) W (by have := hL.pos; omega) (by rw [hsz]; omega) (by rw [hsz]; omega) (by rw [hpre]; exact y1) (by rw [hpre]; exact y2) (by rw [bu]; decide) (by rw [bu]; decide)).mono ?_
              rintro e' w' ⟨v', he, hit, hbel⟩
              refine close w' v' softK _ e' he hit hbel hks1 (by omega) (by omega) (by omega) (by omega) (by rw [b10]; rfl) ⟨rfl, .inr (.inl ⟨A ++ l ++ [10], rfl, by rw [hA10], by simp <;> omega, rfl, ?_⟩)⟩
              rw [hp]
              exact (hK.plainS hL.chr).softS
      · subst h1
        have hlen := congrArg List.length e
        rw [List.length_append] at hlen
        obtain ⟨p, hqp'⟩ : ∃ p, q = 60 :: p := by
          cases q with
          | nil => cases hq
          | cons x p => simp only [List.getElem?_cons_zero, Option.some.injEq] at hq; subst hq; exact ⟨p, rfl⟩
        have b60 := lin_one (t := T) (p := A) (c := 60) (r := p) (by rw [e, hqp']; simp) A.length rfl
        rw [b60] at hf
        have hf' : some (68, (#[] : Array Value)) = some (f', rv) := hf
        simp only [Option.some.injEq, Prod.mk.injEq] at hf'
        obtain ⟨rfl, rfl⟩ := hf'
        have H := htag htg g A W (by omega)
        rw [← e] at H
        refine H.mono ?_
        rintro e' w' ⟨v', he, hit, hbel⟩
        have hp : pieceK ⟨T.toArray⟩ A.length A.length = [] := by unfold pieceK; rw [if_neg (Nat.lt_irrefl _)]
        refine close w' v' (tagK q) _ e' he hit hbel hks2 (Nat.le_refl _) (by omega) (by omega) (by omega) (by rw [b60]; rfl) ⟨rfl, .inr (.inr ⟨htg, by omega, by omega, ?_⟩)⟩
        rw [hp, List.append_nil, e]
        exact hK.tagS
      · omega
  · obtain ⟨hne, hK⟩ := hF
    refine ⟨hne, Nat.le_trans hK.plain (by omega), outN q, outN_plain q, fun k hk hnk => ?_, hK.out⟩
    rcases hK.kind k hk with rfl | rfl | ⟨l, rfl⟩
    · have : outN q softK = [10] := by unfold outN; rw [plainOf_soft]; rfl
      rw [this]; exact hp1
    · have : outN q (tagK q) = q := by
        unfold outN
        rw [plainOf_tag]
        exact if_neg (by show ¬ (287 = 194); decide)
      rw [this]; exact hp2
    · exact absurd rfl (hnk l)
end Go.Proofs.YtmmijmhdbpldpaaGreatDoor
/- A paragraph of some lines, a block of HTML of two lines behind it or not: what is known between the lines. -/


namespace Go.Proofs.YtmmijmhdbpldpaaGreatDoor
open Go.RowKit
theorem joinL_tail : ∀ (x : List UInt8) (t : List (List UInt8)), joinL (x :: t) = x ++ tailN t
  | x, [] => by simp [joinL, tailN]
  | x, y :: t => by
    rw [tailN_cons, ← joinL_tail y t]
    rfl
theorem joinL_one (x : List UInt8) : joinL [x] = x := rfl
theorem joinL_two (x y : List UInt8) (t : List (List UInt8)) : joinL (x :: y :: t) = x ++ 10 :: joinL (y :: t) := rfl
theorem joinL_mem {c : UInt8} : ∀ {t : List (List UInt8)}, c ∈ joinL t → c = 10 ∨ ∃ x ∈ t, c ∈ x := by
  intro t
  cases t with
  | nil => intro h; cases h
  | cons x t =>
    intro h
    rw [joinL_tail] at h
    rcases List.mem_append.1 h with h | h
    · exact .inr ⟨x, List.mem_cons_self .., h⟩
    · unfold tailN at h
      obtain ⟨y, hy, hc⟩ := List.mem_flatMap.1 h
      rcases List.mem_cons.1 hc with h | h
      · exact .inl h
      · exact .inr ⟨y, List.mem_cons_of_mem _ hy, h⟩
theorem next_joinL (x : List UInt8) (t : List (List UInt8)) (h : ∀ l ∈ x :: t, 10 ∉ l ∧ 13 ∉ l) : ∃ nl, nextLine (joinL (x :: t)) = (x, nl, joinL t) := by
  have hx := h x (List.mem_cons_self ..)
  cases t with
  | nil =>
    rw [joinL_one]
    refine ⟨0, ?_⟩
    unfold nextLine
    rw [idxB_not _ _ hx.2, idxB_not _ _ hx.1]
    rfl
  | cons y t =>
    rw [joinL_two]
    refine ⟨10, nextLine_cut x _ hx.1 hx.2 (fun hm => ?_)⟩
    rcases joinL_mem hm with e | ⟨l, hl, hc⟩
    · cases e
    · exact (h l (List.mem_cons_of_mem _ hl)).2 hc
theorem joinL_ne {x : List UInt8} {t : List (List UInt8)} (h : 0 < x.length) : joinL (x :: t) ≠ [] := by
  intro e
  have h2 : (joinL (x :: t)).length = 0 := by rw [e]; rfl
  rw [joinL_tail, List.length_append] at h2
  omega
theorem tailN_app (a b : List (List UInt8)) : tailN (a ++ b) = tailN a ++ tailN b := by unfold tailN; rw [List.flatMap_append]
/-- The builder's lines, joined. -/
theorem joinT_lines : ∀ (x : List UInt8) (t : List (List UInt8)), joinT ((x :: t).map fun l => ⟨l.toArray⟩) = joinL (x :: t) := by
  intro x t
  rw [joinL_tail]
  unfold joinT
  rw [List.map_cons, List.map_cons, Lib.join_cons]
  unfold Lib.joinTail tailN
  rw [List.map_map, List.map_map, List.flatMap]
  simp
  rfl
theorem strs_lines (t : List (List UInt8)) : strsV (t.map fun l => ⟨l.toArray⟩) = t.map lineV := by
  unfold strsV
  rw [List.map_map]
  rfl
/-- The lines of a document: a paragraph's, and those of a block of HTML behind it, or none. -/
structure DocL (o : Opt) (p0 : List UInt8) (P : List (List UInt8)) (R : Option (List UInt8 × List UInt8 × EndK × Bool)) : Prop where
  first : ParLine ⟨p0.toArray⟩
  more : ∀ l ∈ P, OverL ⟨l.toArray⟩ ∧ DeclH ⟨l.toArray⟩
  plain : ∀ l ∈ p0 :: P, 10 ∉ l ∧ 13 ∉ l ∧ 0 ∉ l ∧ l.length ≤ 100 ∧ 0 < l.length
  few : P.length ≤ 20
  head : ParaHead (joinL (p0 :: P))
  tables : o.tables = false
  tasks : o.tasks = false
  html : ∀ op cl k b, R = some (op, cl, k, b) → OverL ⟨op.toArray⟩ ∧ (∀ B g nl, StartsAs B g ⟨op.toArray⟩ nl k) ∧ EndsB k cl b ∧ (trimL cl).isEmpty = false ∧ (10 ∉ op ∧ 13 ∉ op ∧ 0 ∉ op) ∧ (10 ∉ cl ∧ 13 ∉ cl ∧ 0 ∉ cl) ∧ op.length ≤ 100 ∧ cl.length ≤ 100 ∧ 0 < cl.length
def restL : Option (List UInt8 × List UInt8 × EndK × Bool) → List (List UInt8)
  | none => []
  | some (op, cl, _, _) => [op, cl]
@[reducible] def psAtL (pb n : Nat) (dp : Int) (tx st : Sl) : PSr := { ps0 pb with lineno := n, lineDepth := dp, texts := tx, stack := st }
/-- The paragraph is open. -/
def HI1 (pb g : Nat) (a : Option Addr) (p0 : List UInt8) (P : List (List UInt8)) (R : Option (List UInt8 × List UInt8 × EndK × Bool)) (l : List UInt8) (n : Nat) (w : World) : Prop :=
  ∃ (don rest : List (List UInt8)) (st v : Sl) (qb y : Nat) (el : Int), don ++ rest = P ∧ l = joinL (rest ++ restL R) ∧ n = don.length + 1 ∧ IsPS w g (psAtL pb n 0 Sl.nil st) ∧ IsStack w (g + 1) st ([] ++ [rootE a Sl.nil y] ++ [parE qb 1 el]) ∧ IsPara w (g + 1) qb v ((p0 :: don).map lineV) ∧ v.n = don.length + 1
/-- The block of HTML has begun. -/
def HI2 (pb g : Nat) (a : Option Addr) (txt op cl : List UInt8) (k : EndK) (l : List UInt8) (n : Nat) (w : World) : Prop :=
  ∃ (st tx v1 v : Sl) (fn : Value) (hb kb tb : Nat) (y sl z : Int), l = cl ∧ n ≤ 60 ∧ IsPS w g (psAtL pb n 0 tx st) ∧ IsStack w (g + 1) st ([] ++ [rootE a v1 y] ++ [htmE hb sl z]) ∧ IsHtm w (g + 1) hb k.blank v [lineV op] fn k ∧ HtmX (g + 1) g (psAtL pb n 0 tx st) v1 kb tb txt w ∧ v1.n = 1 ∧ v.n = 1 ∧ tx.n = 1
/-- Its last line has been read. -/
def HI3 (pb g : Nat) (a : Option Addr) (txt op cl : List UInt8) (k : EndK) (b : Bool) (n : Nat) (w : World) : Prop :=
  ∃ (st tx : Sl) (y : Int), n ≤ 100 ∧ tx.n = 1 ∧
    ((b = true ∧ ∃ (v1 v : Sl) (kb tb hk : Nat) (sl z : Int), IsPS w g (psAtL pb n 0 tx st) ∧ IsStack w (g + 1) st ([] ++ [rootE a v1 y]) ∧ v1.n = 2 ∧ w.ownsRow (g + 1) 69 1 v1.v 2 [parV kb, htmV hk] ∧ ClP w kb tb txt ∧
      w.ownsRow (g + 1) 105 1 tx.v 1 [.pointer (some ⟨tb, 0, none⟩)] ∧ g < tb ∧ Blk w hk 372 #[.int .i64 sl, .int .i64 z, v.v] ∧ w.ownsRow (g + 1) 9 1 v.v v.n [lineV op, lineV cl] ∧ v.n = 2) ∨
     (b = false ∧ ∃ (v1 v : Sl) (fn : Value) (hb kb tb : Nat) (sl z : Int), IsPS w g (psAtL pb n 1 tx st) ∧ IsStack w (g + 1) st ([] ++ [rootE a v1 y] ++ [htmE hb sl z]) ∧ IsHtm w (g + 1) hb k.blank v [lineV op, lineV cl] fn k ∧ HtmX (g + 1) g (psAtL pb n 1 tx st) v1 kb tb txt w ∧ v1.n = 1 ∧ v.n = 2))
def HInv (pb g : Nat) (w0 : World) (o : Opt) (p0 : List UInt8) (P : List (List UInt8)) (R : Option (List UInt8 × List UInt8 × EndK × Bool)) (l : List UInt8) (n : Nat) (w : World) : Prop :=
  Below g w0 w ∧ Blk w pb 77 o.parser ∧ ∃ a : Option Addr,
    (∃ st, l = joinL (p0 :: (P ++ restL R)) ∧ n = 0 ∧ IsPS w g { ps0 pb with stack := st } ∧ IsStack w (g + 1) st ([] ++ [rootF a Sl.nil])) ∨
    HI1 pb g a p0 P R l n w ∨
    (∃ op cl k b, R = some (op, cl, k, b) ∧ HI2 pb g a (joinL (p0 :: P)) op cl k l n w) ∨
    (∃ op cl k b, R = some (op, cl, k, b) ∧ l = [] ∧ HI3 pb g a (joinL (p0 :: P)) op cl k b n w)
end Go.Proofs.YtmmijmhdbpldpaaGreatDoor
/- A paragraph of some lines, a block of HTML behind it or not: each line, as it is read. -/

namespace Go.Proofs.YtmmijmhdbpldpaaGreatDoor
open Go.RowKit
variable {o : Opt} {p0 : List UInt8} {P : List (List UInt8)} {R : Option (List UInt8 × List UInt8 × EndK × Bool)}
theorem DocL.all (hD : DocL o p0 P R) : ∀ l ∈ p0 :: (P ++ restL R), 10 ∉ l ∧ 13 ∉ l := by
  intro l hl
  rcases List.mem_cons.1 hl with rfl | hl
  · have := hD.plain l (List.mem_cons_self ..)
    exact ⟨this.1, this.2.1⟩
  rcases List.mem_append.1 hl with hl | hl
  · have := hD.plain l (List.mem_cons_of_mem _ hl)
    exact ⟨this.1, this.2.1⟩
  · cases hR : R with
    | none => rw [hR] at hl; cases hl
    | some x =>
      obtain ⟨op, cl, k, b⟩ := x
      have := hD.html op cl k b hR
      rw [hR] at hl
      simp only [restL, List.mem_cons, List.not_mem_nil, or_false] at hl
      rcases hl with rfl | rfl
      · exact ⟨this.2.2.2.2.1.1, this.2.2.2.2.1.2.1⟩
      · exact ⟨this.2.2.2.2.2.1.1, this.2.2.2.2.2.1.2.1⟩
theorem toL (l : List UInt8) : (ByteArray.mk l.toArray).data.toList = l := by simp
set_option maxHeartbeats 800000 in
theorem hp_line (pb g : Nat) (w0 : World) (hD : DocL o p0 P R) (hpb : pb < g) (hlen : (joinL (p0 :: (P ++ restL R))).length ≤ 10000) :
    ∀ l n w, HInv pb g w0 o p0 P R l n w → l ≠ [] → l.length ≤ (joinL (p0 :: (P ++ restL R))).length → (∃ r, IsPS w g r ∧ r.lineno = n) ∧ n + l.length ≤ 1000000 ∧
      Calls Tryz.prog 54 #[.pointer (some ⟨g, 0, none⟩), .agg #[.int .i64 0, .int .i64 0, .int .i64 0, .string ⟨(nextLine l).1.toArray⟩, .int .u8 (nextLine l).2.1]] (w.setCell ⟨g, 3, none⟩ (.int .i64 ((n : Int) + 1)))
        (fun e w' => e = .returned (.tuple #[]) ∧ HInv pb g w0 o p0 P R (nextLine l).2.2 (n + 1) w') := by
  rintro l n w ⟨hb, hpar, a, h⟩ hne hll
  have hfew := hD.few
  have hgl : g < w.heap.size := by
    rcases h with ⟨st, _, _, h, _⟩ | ⟨_, _, _, _, _, _, _, _, _, _, h, _⟩ | ⟨_, _, _, _, _, _, _, _, _, _, _, _, _, _, _, _, _, _, h, _⟩ | ⟨_, _, _, _, _, hl, _⟩
    · exact h.lt
    · exact h.lt
    · exact h.lt
    · exact absurd hl hne
  have hbel : ∀ {w' : World}, Mod (fun k => g ≤ k) (w.setCell ⟨g, 3, none⟩ (.int .i64 ((n : Int) + 1))) w' → Below g w0 w' := fun hm => (hb.setCell (p := ⟨g, 3, none⟩) (Nat.le_refl _) _).trans (hm.toBelow (B := g) (by simp [World.setCell]; exact Nat.le_of_lt hgl) (fun k hk e => by omega))
  have hpar3 : Blk (w.setCell ⟨g, 3, none⟩ (.int .i64 ((n : Int) + 1))) pb 77 o.parser := hpar.far (p := ⟨g, 3, none⟩) (by show pb ≠ g; omega) _
  have hsz3 : (w.setCell ⟨g, 3, none⟩ (.int .i64 ((n : Int) + 1))).heap.size = w.heap.size := by simp [World.setCell]
  have hm3 : Mod (fun k => k = g) w (w.setCell ⟨g, 3, none⟩ (.int .i64 ((n : Int) + 1))) := (Mod.refl (fun k => k = g) w).setCell (p := ⟨g, 3, none⟩) (.inl rfl) _
  have ecast : (((n + 1 : Nat)) : Int) = (n : Int) + 1 := by omega
  rcases h with ⟨st, rfl, rfl, hps, hst⟩ | ⟨don, rest, st, v, qb, y, el, hdr, rfl, hn, hps, hst, hp, hv⟩ | ⟨op, cl, k, b, hR, st, tx, v1, v, fn, hbk, kb, tb, y, sl, z, rfl, hn, hps, hst, hh, hx, hv1, hv, htx⟩ | ⟨_, _, _, _, _, hl, _⟩
  · refine ⟨⟨_, hps, rfl⟩, by omega, ?_⟩
    obtain ⟨nl, hnl⟩ := next_joinL p0 (P ++ restL R) hD.all
    rw [hnl]
    have hne2 : some g ≠ st.v.ownBlock := own_ne hst.2 hps (by decide)
    refine (addLine_par0 (g + 1) g { ps0 pb with lineno := ((0 : Nat) : Int) + 1, stack := st } a Sl.nil o.tables nl ⟨p0.toArray⟩ _ (Nat.lt_succ_self _) (by rw [hsz3]; exact hgl) (hps.set3 _) (hst.far (p := ⟨g, 3, none⟩) hne2 _) hD.first hpb (hpar3.at_ 5 rfl)).mono ?_
    rintro e w' ⟨rfl, st2, qb, v, h1, h2, h3, h4, hm⟩
    rw [toL] at h3
    exact ⟨rfl, hbel hm, hpar3.mod hm (by omega), a, .inr (.inl ⟨[], P, st2, v, qb, 0, _, rfl, rfl, rfl, h1, h2, h3, h4⟩)⟩
  · have hdl : don.length ≤ 20 := by have := congrArg List.length hdr; rw [List.length_append] at this; omega
    refine ⟨⟨_, hps, rfl⟩, by omega, ?_⟩
    have hne2 : some g ≠ st.v.ownBlock := own_ne hst.2 hps (by decide)
    have hst3 := hst.far (p := ⟨g, 3, none⟩) hne2 (.int .i64 ((n : Int) + 1))
    have hp3 : IsPara (w.setCell ⟨g, 3, none⟩ (.int .i64 ((n : Int) + 1))) (g + 1) qb v ((p0 :: don).map lineV) := hp.far (p := ⟨g, 3, none⟩) hps (by decide) (by decide) _
    have hps3 : IsPS (w.setCell ⟨g, 3, none⟩ (.int .i64 ((n : Int) + 1))) g (psAtL pb (n + 1) 0 Sl.nil st) := by
      have := hps.set3 ((n : Int) + 1)
      unfold psAtL
      rw [ecast]
      exact this
    cases rest with
    | cons x t =>
      have hxm : x ∈ P := by rw [← hdr]; exact List.mem_append_right _ (List.mem_cons_self ..)
      obtain ⟨nl, hnl⟩ := next_joinL x (t ++ restL R) (fun l hl => hD.all l (by
        refine List.mem_cons_of_mem _ ?_
        rcases List.mem_cons.1 hl with rfl | hl
        · exact List.mem_append_left _ hxm
        · rcases List.mem_append.1 hl with hl | hl
          · exact List.mem_append_left _ (by rw [← hdr]; exact List.mem_append_right _ (List.mem_cons_of_mem _ hl))
          · exact List.mem_append_right _ hl))
      rw [show (x :: t) ++ restL R = x :: (t ++ restL R) from rfl, hnl]
      obtain ⟨hx1, hx2⟩ := hD.more x hxm
      refine (addLine_parM (g + 1) g qb (psAtL pb (n + 1) 0 Sl.nil st) a Sl.nil y 1 el nl v _ ⟨x.toArray⟩ _ (Nat.lt_succ_self _) (by rw [hsz3]; exact hgl) hps3 hst3 hp3 (by omega) hx1 hx2 hpb (by have := hpar3.at_ 5 (v := .bool o.tables) rfl; rw [hD.tables] at this; exact this)).mono ?_
      rintro e w' ⟨rfl, v', h1, h2, h3, h4, hm⟩
      rw [toL] at h3
      refine ⟨rfl, hbel hm, hpar3.mod hm (by omega), a, .inr (.inl ⟨don ++ [x], t, st, v', qb, n + 1, _, by rw [← hdr]; simp, rfl, by rw [hn]; simp, h1, h2, by simpa using h3, by rw [h4, hv]; simp⟩)⟩
    | nil =>
      rw [List.append_nil] at hdr
      subst hdr
      cases hR : R with
      | none => rw [hR] at hne; exact absurd rfl hne
      | some x =>
        obtain ⟨op, cl, k, b⟩ := x
        obtain ⟨q1, q2, q3, q4, q5, q6, q7, q8, q9⟩ := hD.html op cl k b hR
        obtain ⟨nl, hnl⟩ := next_joinL op [cl] (fun l hl => by
          simp only [List.mem_cons, List.not_mem_nil, or_false] at hl
          rcases hl with rfl | rfl
          · exact ⟨q5.1, q5.2.1⟩
          · exact ⟨q6.1, q6.2.1⟩)
        rw [show ([] : List (List UInt8)) ++ restL (some (op, cl, k, b)) = op :: [cl] from rfl, hnl]
        have hj := joinT_lines p0 don
        have hp3' : IsPara (w.setCell ⟨g, 3, none⟩ (.int .i64 ((n : Int) + 1))) (g + 1) qb v (strsV ((p0 :: don).map fun l => ⟨l.toArray⟩)) := by rw [strs_lines]; exact hp3
        refine (addLine_htmO (g + 1) g qb (psAtL pb (n + 1) 0 Sl.nil st) a y 1 el nl v ((p0 :: don).map fun l => ⟨l.toArray⟩) ⟨op.toArray⟩ k _ (Nat.lt_succ_self _) (by rw [hsz3]; exact hgl) hps3 hst3 hp3' (by rw [hv]; simp) rfl (by omega) (by simp) (by simp; omega) (by rw [hj]; exact hD.head) q1 (q2 (g + 1) g nl)).mono ?_
        rintro e w' ⟨rfl, hbk, st2, v1, tx, hv', fn, kb, tb, z, h1, h2, h3, h4, h5, h6, h7, h8, h9, h10, hm⟩
        rw [hj] at h5
        have h6' : w'.ownsRow (g + 1) 105 1 tx.v 1 [.pointer (some ⟨tb, 0, none⟩)] := h6
        exact ⟨rfl, hbel hm, hpar3.mod hm (by omega), a, .inr (.inr (.inl ⟨op, cl, k, b, rfl, st2, tx, v1, hv', fn, hbk, kb, tb, y, _, z, rfl, by omega, h1, h2, h9, ⟨h4, h5, h6', h8⟩, h3, h10, h7⟩))⟩
  · obtain ⟨q1, q2, q3, q4, q5, q6, q7, q8, q9⟩ := hD.html op l k b hR
    refine ⟨⟨_, hps, rfl⟩, by omega, ?_⟩
    obtain ⟨nl, hnl⟩ := next_joinL l [] (fun l' hl => by
      simp only [List.mem_cons, List.not_mem_nil, or_false] at hl
      subst hl
      exact ⟨q6.1, q6.2.1⟩)
    rw [joinL_one] at hnl
    rw [hnl]
    have hne2 : some g ≠ st.v.ownBlock := own_ne hst.2 hps (by decide)
    have hst3 := hst.far (p := ⟨g, 3, none⟩) hne2 (.int .i64 ((n : Int) + 1))
    have hh3 := hh.mod hm3 (Blk.ne_ hh.1 hps (by decide)) (fun q hq e => own_ne hh.2.1 hps (by decide) (by rw [hq, e])) (fun q cs hq e => Blk.ne_ hq hps (by decide) e)
    have hx3 : HtmX (g + 1) g (psAtL pb (n + 1) 0 tx st) v1 kb tb (joinL (p0 :: P)) (w.setCell ⟨g, 3, none⟩ (.int .i64 ((n : Int) + 1))) := hx.mod hm3 (fun q ty cs hq ht e => Blk.ne_ hq hps (by rcases ht with rfl | rfl | rfl | rfl <;> decide) e)
    have hps3 : IsPS (w.setCell ⟨g, 3, none⟩ (.int .i64 ((n : Int) + 1))) g (psAtL pb (n + 1) 0 tx st) := by
      have := hps.set3 ((n : Int) + 1)
      unfold psAtL
      rw [ecast]
      exact this
    refine (addLine_htm (g + 1) g hbk (psAtL pb (n + 1) 0 tx st) a v1 y kb tb (joinL (p0 :: P)) sl z nl v [lineV op] fn k l b _ (Nat.lt_succ_self _) (by rw [hsz3]; exact hgl) hps3 hst3 hh3 hx3 hv1 hv (by simp) (by omega) q4 q3).mono ?_
    rintro e w' ⟨rfl, ⟨hbt, st2, v2, vv, kb2, tb2, hk, sl2, z2, h1, h2, h3, h4, h5, h6, h7, h8, h9, h10, hm⟩ | ⟨hbf, v', z', ⟨h1, h2, h3, h4, hm⟩, hv'⟩⟩
    · exact ⟨rfl, hbel hm, hpar3.mod hm (by omega), a, .inr (.inr (.inr ⟨op, l, k, b, hR, rfl, st2, tx, y, by omega, htx, .inl ⟨hbt, v2, vv, kb2, tb2, hk, sl2, z2, h1, h2, h3, h4, h5, h6, h7, h8, h9, h10⟩⟩))⟩
    · exact ⟨rfl, hbel hm, hpar3.mod hm (by omega), a, .inr (.inr (.inr ⟨op, l, k, b, hR, rfl, st, tx, y, by omega, htx, .inr ⟨hbf, v1, v', fn, hbk, kb, tb, sl, z', h1, h2, h3, h4, hv1, hv'⟩⟩))⟩
  · exact absurd hl hne
end Go.Proofs.YtmmijmhdbpldpaaGreatDoor
/- A paragraph of some lines, a block of HTML behind it or not: its HTML. -/

namespace Go.Proofs.YtmmijmhdbpldpaaGreatDoor
open Go.RowKit
variable {o : Opt} {p0 : List UInt8} {P : List (List UInt8)} {R : Option (List UInt8 × List UInt8 × EndK × Bool)}
/-- The document's blocks. -/
def HKid (B : Nat) (w : World) (kb : Nat) : Option (List (List UInt8)) → List Value → Prop
  | none, ys => ys = [parV kb]
  | some L, ys => ∃ (hk : Nat) (sl z : Int) (v : Sl), ys = [parV kb, htmV hk] ∧ Blk w hk 372 #[.int .i64 sl, .int .i64 z, v.v] ∧ w.ownsRow B 9 1 v.v v.n (L.map lineV) ∧ v.n = L.length
theorem HKid.mod {B kb : Nat} {w w' : World} {L : Option (List (List UInt8))} {ys : List Value} {S : Nat → Prop} (h : HKid B w kb L ys) (hm : Mod S w w') (hn : ∀ b ty cs, Blk w b ty cs → ty = 372 ∨ ty = 9 → ¬ S b) : HKid B w' kb L ys := by
  cases L with
  | none => exact h
  | some L =>
    obtain ⟨hk, sl, z, v, h1, h2, h3, h4⟩ := h
    refine ⟨hk, sl, z, v, h1, h2.mod hm (hn _ _ _ h2 (.inl rfl)), own_mod h3 hm (fun k hk => ?_), h4⟩
    rcases h3.2 with ⟨e1, _⟩ | ⟨gb, cap, cur, e1, _, hh, _⟩
    · rw [e1] at hk; cases hk
    · rw [e1] at hk
      obtain rfl : gb = k := Option.some.inj hk
      exact hn _ _ _ hh (.inr rfl)
def kidL : Option (List UInt8 × List UInt8 × EndK × Bool) → Option (List (List UInt8))
  | none => none
  | some (op, cl, _, _) => some [op, cl]
def HFin (pb g : Nat) (w0 : World) (o : Opt) (p0 : List UInt8) (P : List (List UInt8)) (R : Option (List UInt8 × List UInt8 × EndK × Bool)) (out : List UInt8) (ta : Option Addr) (k : Nat) (w : World) : Prop :=
  Below g w0 w ∧ Blk w pb 77 o.parser ∧ ∃ (r : PSr) (d kb tb ab : Nat) (v1 : Sl) (tc : Nat) (y : Int) (ys : List Value), IsPS w g r ∧ r.parser = pb ∧ r.root = some ⟨d, 0, none⟩ ∧ ta = some ⟨ab, 0, none⟩ ∧ r.texts = ⟨ta, 1, tc⟩ ∧ w.ownsRow (g + 1) 105 1 r.texts.v 1 [.pointer (some ⟨tb, 0, none⟩)] ∧
    Blk w d 339 #[.int .i64 0, .int .i64 y, v1.v, .map none] ∧ v1.n ≤ 2 ∧ w.ownsRow (g + 1) 69 1 v1.v v1.n ys ∧ HKid (g + 1) w kb (kidL R) ys ∧ g < tb ∧
    ((k = 0 ∧ r.back.length = 81 ∧ ClP w kb tb (joinL (p0 :: P))) ∨ (k = 1 ∧ IsPar w (g + 1) kb tb out))
theorem hp_trim (pb g : Nat) (w0 : World) (out : List UInt8) (hD : DocL o p0 P R) (hpb : pb < g) :
    ∀ n w, HInv pb g w0 o p0 P R [] n w → Calls Tryz.prog 55 #[.pointer (some ⟨g, 0, none⟩), .int .i64 0] w (fun e w' => e = .returned (.tuple #[]) ∧ ∃ ta, HFin pb g w0 o p0 P R out ta 0 w') := by
  rintro n w ⟨hb, hpar, a, h⟩
  have hpl := hD.plain p0 (List.mem_cons_self ..)
  rcases h with ⟨st, h, _⟩ | ⟨don, rest, st, v, qb, y, el, hdr, hl, hn, hps, hst, hp, hv⟩ | ⟨op, cl, k, b, hR, _, _, _, _, _, _, _, _, _, _, _, hl, _⟩ | ⟨op, cl, k, b, hR, _, st, tx, y, hn, htx, h⟩
  · exact absurd h.symm (joinL_ne hpl.2.2.2.2)
  · have hfew := hD.few
    obtain ⟨rfl, hRn⟩ : rest = [] ∧ R = none := by
      cases rest with
      | cons x t => exact absurd hl.symm (joinL_ne (hD.plain x (List.mem_cons_of_mem _ (by rw [← hdr]; exact List.mem_append_right _ (List.mem_cons_self ..)))).2.2.2.2)
      | nil =>
        cases hR : R with
        | none => exact ⟨rfl, rfl⟩
        | some x =>
          rw [hR] at hl
          have := congrArg List.length hl
          simp [restL, joinL_two] at this
    rw [List.append_nil] at hdr
    subst hdr
    have hg := hps.lt
    have hj := joinT_lines p0 don
    have hp' : IsPara w (g + 1) qb v (strsV ((p0 :: don).map fun l => ⟨l.toArray⟩)) := by rw [strs_lines]; exact hp
    refine (trim_leaf0 (g + 1) g _ a Sl.nil 0 y (parE qb 1 el) [] 153 _ w hps hst (closePara_any (g + 1) g qb _ (rootE a Sl.nil y) [] v ((p0 :: don).map fun l => ⟨l.toArray⟩) [] 1 el w hg hps hst (World.ownsRow_nil _ _ _ _) (by show 0 ≤ 1000000; omega) hp' (by rw [hv]; simp) (World.ownsRow_nil _ _ _ _) (by show 0 ≤ 1000000; omega) (by omega) (by simp) (by simp; omega) (by rw [hj]; exact hD.head))).mono ?_
    rintro e w' ⟨rfl, r', kb, w1, v1, st2, d, ⟨tb, l, rfl, q1, q2, q3, q4, q5, q6, q7⟩, hd, hps2, hv1, hrow, hdoc, hm⟩
    rw [hj] at q4
    have hbel : Below g w w' := (q7.toBelow (B := g) (Nat.le_of_lt hg) (fun k hk e => by
        rcases e with e | e
        · omega
        · cases e)).trans (hm.toBelow (B := g) (Nat.le_trans (Nat.le_of_lt hg) q7.size) (fun k hk e => by
        rcases e with e | e | e
        · omega
        · have := ownBase hst.2 e; omega
        · cases e))
    obtain ⟨la, ln, lc⟩ := l
    obtain rfl : ln = 1 := q6
    have hst1 := hst.mod q7 (fun k hk e => by
      rcases e with e | e
      · subst e; exact own_ne hst.2 hps (by decide) hk.symm
      · cases e)
    have h5 : w1.ownsRow (g + 1) 105 1 (.slice la 1 lc) 1 [.pointer (some ⟨tb, 0, none⟩)] := q5
    have hrowt : w'.ownsRow (g + 1) 105 1 (.slice la 1 lc) 1 [.pointer (some ⟨tb, 0, none⟩)] := by
      refine own_mod h5 hm (fun q hq e => ?_)
      rcases e with e | e | e
      · have := ownBase h5 hq.symm; omega
      · exact ownApart h5 hst1.2 (by decide) hq e.symm
      · cases e
    obtain ⟨ab, cs, hab, _⟩ := row_blk hrowt (Nat.succ_pos 0)
    have hv1' : v1.n = 1 := hv1
    have kp := q3.mod hm (fun e => by
      rcases e with e | e | e
      · omega
      · exact own_ne hst1.2 q3 (by decide) e
      · cases e)
    have kt := q4.mod hm (fun e => by
      rcases e with e | e | e
      · omega
      · exact own_ne hst1.2 q4 (by decide) e
      · cases e)
    refine ⟨rfl, la, hb.trans hbel, hpar.mod (Mod.below hbel (S := fun k => g ≤ k) (fun k _ h => h)) (by omega), _, d, kb, tb, ab, v1, lc, y, [parV kb], hps2, rfl, rfl, hab, rfl, hrowt, hdoc, by omega, hrow, ?_, by omega, .inl ⟨rfl, rfl, _, _, _, _, kp, kt⟩⟩
    rw [hRn]
    rfl
  · have := hD.html op cl k b hR
    rw [← hl] at this
    exact absurd this.2.2.2.2.2.2.2.2 (by simp)
  · rcases h with ⟨hbt, v1, v, kb, tb, hk, sl, z, hps, hst, hv1, hrow, hcp, hrt, hgt, hhb, hhr, hvn⟩ | ⟨hbf, v1, v, fn, hbk, kb, tb, sl, z, hps, hst, hh, hx, hv1, hvn⟩
    · have hg := hps.lt
      refine (trimRoot_any (g + 1) g _ a v1 0 y w hps hst).mono ?_
      rintro e w' ⟨rfl, d, st', hd, hps', hblk, hm⟩
      have hbel : Below g w w' := hm.toBelow (B := g) (Nat.le_of_lt hg) (fun k hk e => by omega)
      have hrt' : w'.ownsRow (g + 1) 105 1 tx.v 1 [.pointer (some ⟨tb, 0, none⟩)] := own_mod hrt hm (fun q hq e => own_ne hrt hps (by decide) (by rw [hq, e]))
      obtain ⟨ta, tn, tc⟩ := tx
      obtain rfl : tn = 1 := htx
      obtain ⟨ab, cs, hab, _⟩ := row_blk hrt' (Nat.succ_pos 0)
      obtain ⟨p1, p2, p3, p4, c1, c2⟩ := hcp
      refine ⟨rfl, ta, hb.trans hbel, hpar.mod (Mod.below hbel (S := fun k => g ≤ k) (fun k _ h => h)) (by omega), _, d, kb, tb, ab, v1, tc, y, [parV kb, htmV hk], hps', rfl, rfl, hab, rfl, hrt', hblk, by omega, ?_, ?_, hgt, .inl ⟨rfl, rfl, p1, p2, p3, p4, c1.mod hm (fun e => Blk.ne_ c1 hps (by decide) e), c2.mod hm (fun e => Blk.ne_ c2 hps (by decide) e)⟩⟩
      · rw [hv1]; exact own_mod hrow hm (fun q hq e => own_ne hrow hps (by decide) (by rw [hq, e]))
      · rw [hR]
        exact ⟨hk, sl, z, v, rfl, hhb.mod hm (fun e => Blk.ne_ hhb hps (by decide) e), own_mod hhr hm (fun q hq e => own_ne hhr hps (by decide) (by rw [hq, e])), hvn⟩
    · have hg := hps.lt
      have hx1 : w.ownsRow (g + 1) 69 1 v1.v v1.n [parV kb] := by
        have h := hx.1
        rw [hv1]
        exact h
      refine (trim_leaf0 (g + 1) g _ a v1 0 y (htmE hbk sl z) [parV kb] 370 _ w hps hst (closeHtm_any (g + 1) g hbk _ (rootE a v1 y) [parV kb] k.blank v _ fn k sl z w hg hps hst hx1 (by show v1.n ≤ 1000000; omega) hh)).mono ?_
      rintro e w' ⟨rfl, r', hk, w1, v2, st2, d, ⟨rfl, d1, d2, d3, d4⟩, hd, hps2, hv2, hrow2, hdoc, hm⟩
      have hv2' : v2.n = 2 := by have h8 : v2.n = v1.n + 1 := hv2; omega
      have hx0 : HtmX (g + 1) g (psAtL pb n 1 tx st) v1 kb tb (joinL (p0 :: P)) w1 := hx.mod (Mod.below' (S := fun _ => False) d4) (fun _ _ _ _ _ x => x)
      have hst0 := hst.below d4
      have hps0 : IsPS w1 g (psAtL pb n 1 tx st) := hps.below d4
      have hS : ∀ q ty cs, Blk w1 q ty cs → ty ≠ 121 → ty ≠ 69 → ty ≠ 95 → ¬ (q = g ∨ some q = (psAtL pb n 1 tx st).stack.v.ownBlock ∨ some q = v1.v.ownBlock) := fun q ty cs hq t1 t2 t3 e => by
        rcases e with e | e | e
        · exact Blk.ne_ hq hps0 t3 e
        · exact own_ne hst0.2 hq t1.symm e
        · exact own_ne hx0.1 hq t2.symm e
      have hbel : Below g w w' := (d4.mono (Nat.le_of_lt hg)).trans (hm.toBelow (B := g) (Nat.le_trans (Nat.le_of_lt hg) d4.size) (fun k hk e => by
        rcases e with e | e | e
        · omega
        · have := ownBase hst0.2 e; omega
        · have := ownBase hx0.1 e; omega))
      obtain ⟨x1, ⟨p1, p2, p3, p4, x2, x3⟩, x4, x5⟩ := hx0
      have hrt' : w'.ownsRow (g + 1) 105 1 tx.v 1 [.pointer (some ⟨tb, 0, none⟩)] := own_mod x4 hm (fun q hq e => by
        rcases e with e | e | e
        · exact own_ne x4 hps0 (by decide) (by rw [hq, e])
        · exact ownApart x4 hst0.2 (by decide) hq e.symm
        · exact ownApart x4 x1 (by decide) hq e.symm)
      obtain ⟨ta, tn, tc⟩ := tx
      obtain rfl : tn = 1 := htx
      obtain ⟨ab, cs, hab, _⟩ := row_blk hrt' (Nat.succ_pos 0)
      refine ⟨rfl, ta, hb.trans hbel, hpar.mod (Mod.below hbel (S := fun k => g ≤ k) (fun k _ h => h)) (by omega), _, d, kb, tb, ab, v2, tc, y, [parV kb, htmV hk], hps2, rfl, rfl, hab, rfl, hrt', hdoc, by omega, hrow2, ?_, x5, .inl ⟨rfl, rfl, p1, p2, p3, p4, x2.mod hm (hS _ _ _ x2 (by decide) (by decide) (by decide)), x3.mod hm (hS _ _ _ x3 (by decide) (by decide) (by decide))⟩⟩
      rw [hR]
      exact ⟨hk, sl, z, v, rfl, d2.mod hm (hS _ _ _ d2 (by decide) (by decide) (by decide)), own_mod d3 hm (fun q hq e => by
        rcases e with e | e | e
        · exact own_ne d3 hps0 (by decide) (by rw [hq, e])
        · exact ownApart d3 hst0.2 (by decide) hq e.symm
        · exact ownApart d3 x1 (by decide) hq e.symm), hvn⟩
end Go.Proofs.YtmmijmhdbpldpaaGreatDoor
