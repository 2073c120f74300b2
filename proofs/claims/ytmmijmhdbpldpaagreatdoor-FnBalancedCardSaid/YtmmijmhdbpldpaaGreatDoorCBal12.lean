/- Texts of this proof, joined: What every law's row has in common: the arguments read behind the call as they did; a slice of bytes as a list, Small functions that several laws call: a byte in a text, a text some times, the alphabet without a byte, Words among which something stands: a paragraph each; where the parts of a text stand. -/
import Derived.Test.YtmmijmhdbpldpaaGreatDoorCBal01
import Derived.Test.YtmmijmhdbpldpaaGreatDoorProg
import Derived.Carry
import Derived.ChangeSame
import Derived.Deep.OwnShut
import Derived.Deep.DeepHandedRow
import Derived.Deep.DeepWitnessRowRef
import Derived.Lib.LaidIn
import Derived.ProofKit
import Derived.OpenShut
import Derived.SizedLaws
import Derived.ChangeSlices
import Derived.Test.YtmmijmhdbpldpaaGreatDoorCBal03
import Derived.OwnWalk
import Derived.Lib.Bytealg
import Derived.Laws.IdiomStrings
import Derived.Deep.AppendLies
import Derived.Test.YtmmijmhdbpldpaaGreatDoorCBal08
import Derived.Test.YtmmijmhdbpldpaaGreatDoorCBal11
import Derived.Test.YtmmijmhdbpldpaaGreatDoorCBal09
import Derived.Test.YtmmijmhdbpldpaaGreatDoorCBal10
/- What every law's row has in common: the arguments read behind the call as they did; a slice of bytes as a list. -/












namespace Go.Proofs.YtmmijmhdbpldpaaGreatDoor
open Go.RowKit Go.ChangeShapes Go.WideShapes Go.ChangeAt
/-- A slice whose cells are the bytes l. -/
def BytesAt (w : World) (A : Option Addr) (l : List UInt8) : Prop :=
  ∀ j (h : j < l.length), ∃ ad, A = some ad ∧ ad.block < w.heap.size ∧ w.cell? (ad.add j) = some (.int .u8 (l[j].toNat : Int))
theorem addr_block (a : Addr) (i : Nat) : (a.add i).block = a.block := by unfold Addr.add; split <;> rfl
theorem BytesAt.below {w w' : World} {A : Option Addr} {l : List UInt8} (h : BytesAt w A l) (hb : Below w.heap.size w w') : BytesAt w' A l := fun j hj => by
  obtain ⟨ad, e, hlt, hc⟩ := h j hj
  exact ⟨ad, e, Nat.lt_of_lt_of_le hlt hb.size, (hb.cell (p := ad.add j) (by rw [addr_block]; exact hlt)).trans hc⟩
theorem laidOut : laidOutB Tryz.prog = true := by kernel_rfl
theorem own : ownKnob Tryz.prog.godebug = none := by kernel_rfl
section
variable {H : Type} {enc : TypeId × Value → H}
/-- All arguments at once: below the heap's old size nothing has turned. -/
theorem args_below {P : Program} (hl : laidOutB P = true) {W W' : World} (hb : Below W.heap.size W W') : ∀ {ts : List TypeId} {vs : List Value} {ds : List (DataW H)} {ps : List MemPlace},
    (∀ t ∈ ts, P.readableRec t = true ∧ t < P.types.size) → DataW.TrodAll enc P W 0 (fun _ => true) true ts vs ds ps → (∀ p ∈ ps, p.block < W.heap.size) → ∀ sp : Nat → Bool, (∀ p ∈ ps, sp p.block = true) → DataW.TrodAll enc P W' 0 sp true ts vs ds ps
  | [], [], [], _, _, h, _, sp, _ => by
    obtain ⟨_, _, rfl⟩ := trodAll_nil h
    exact trodAll_mk0
  | t :: ts, vs, ds, ps, ht, h, hlt, sp, hsp => by
    obtain ⟨v, vs', d, ds', p, q, rfl, rfl, rfl, h0, r⟩ := trodAll_cons h
    have h1 := ht t (List.mem_cons_self ..)
    exact trodAll_cons_mk (WideElems.Trod_stays hl h1.1 h1.2 h0 (fun x hx => hb.same (hlt x (List.mem_append_left _ hx))) (fun x hx => hsp x (List.mem_append_left _ hx)))
      (args_below hl hb (fun u hu => ht u (List.mem_cons_of_mem _ hu)) r (fun x hx => hlt x (List.mem_append_right _ hx)) sp (fun x hx => hsp x (List.mem_append_right _ hx)))
/-- A slice of bytes, nil or not, as a list. -/
theorem open_bytes {P : Program} {t e : TypeId} (ht : P.underlying t = some (.slice e)) (he : P.underlying e = some (.int .u8)) (hc : P.cellsOf e = 1) {W : World} {base : Nat} {v : Value} {d : DataW H} {ps : List MemPlace}
    (hval : Value.okWide P W .any base t v) (h : DataW.Trod enc P W 0 (fun _ => true) true t v d ps) : ∃ A l c, v = .slice A l.length c ∧ BytesAt W A l ∧ l.length ≤ maxLen := by
  obtain ⟨a0, len, cap, rfl⟩ := okWide_slice ht hval
  obtain ⟨fuel, hf⟩ := h
  rcases open_ints ht he hc hf with ⟨hcs, _⟩ | ⟨a, len', cap', zs, hcs, _, hl, hm, hz, _, hcell, hwz⟩
  · simp [Value.cells] at hcs
    obtain ⟨rfl, rfl, rfl⟩ := hcs
    exact ⟨none, [], 0, rfl, fun j hj => absurd hj (by simp), Nat.zero_le _⟩
  · simp [Value.cells] at hcs
    obtain ⟨rfl, rfl, rfl⟩ := hcs
    simp only [if_true] at hz
    have hll : ((zs.take len).map fun n => UInt8.ofNat n.toNat).length = len := by simp; omega
    refine ⟨some a, (zs.take len).map fun n => UInt8.ofNat n.toNat, cap, by rw [hll], fun j hj => ?_, by rw [hll]; omega⟩
    have hj' : j < len := by omega
    have hj2 : j < zs.length := by omega
    have h1 := hcell j hj2
    have h2 := hwz (zs[j]) (List.getElem_mem hj2)
    have h3 : 0 ≤ zs[j] ∧ zs[j] ≤ 255 := by simpa [Lit.wf, IntKind.min, IntKind.max, IntKind.bits, IntKind.signed] using h2
    have hb := World.block_lt_of_cell? W _ h1
    rw [addr_block] at hb
    refine ⟨a, rfl, hb, ?_⟩
    rw [h1]
    have e1 : zs.getD j 0 = zs[j] := by simp [List.getD, hj2]
    rw [e1]
    congr 2
    simp only [List.getElem_map, List.getElem_take]
    have h4 : (zs[j]).toNat < 256 := by omega
    rw [UInt8.toNat_ofNat_of_lt' (show (zs[j]).toNat < UInt8.size from h4)]
    omega
/-- The law's post from its walk: true is returned, and below the old heap nothing has turned. -/
theorem post_true {F : Func} {s : ChangeSpec} {W W' : World} {args : Array Value} {ds gs : List (DataW H)} {before : List MemPlace} {p q : List MemPlace}
    (hW : DataW.Whole enc Tryz.prog F.params.toList s.vars false W args.toList ds gs before) (hA : DataW.TrodAll enc Tryz.prog W 0 (fun _ => true) true F.params.toList args.toList ds p) (hq : before = p ++ q)
    (hv : s.vars = []) (hgs : gs = []) (hq0 : q = []) (hr : F.resultTypes = #[4]) (hfn : s.fn H ds = { results := [.lit (.bool true)], args := ds })
    (ht : ∀ t ∈ F.params.toList, Tryz.prog.readableRec t = true ∧ t < Tryz.prog.types.size) (hb : Below W.heap.size W W') : s.post enc Tryz.prog F false true false false W args (.bool true) W' := by
  subst hgs hq0
  rw [List.append_nil] at hq
  subst hq
  have hlt : ∀ x ∈ before, x.block < W.heap.size := fun x hx => hW.lt x hx
  refine ⟨ds, [], before, [], before, [], hW, ?_, ?_, ?_, hb.frame _, fun h => by cases h⟩
  · rw [List.append_nil, hfn, hr]
    exact trodAll_mk1 (shut_bool Tryz.underlying4 _)
  · rw [List.append_nil, hfn]
    exact args_below laidOut hb ht hA hlt _ (fun x hx => by simpa using hlt x hx)
  · rw [List.append_nil, hfn, hv]
    rfl
end
end Go.Proofs.YtmmijmhdbpldpaaGreatDoor
/- Small functions that several laws call: a byte in a text, a text some times, the alphabet without a byte. -/







namespace Go.Proofs.YtmmijmhdbpldpaaGreatDoor
open Go.RowKit
/-- A truth value is returned, which, where it is true, says P; the world is as it was. -/
def BoolF (P : Prop) (w : World) (e : Ending) (w' : World) : Prop := (∃ b, e = .returned (.bool b) ∧ (b = true → P)) ∧ w = w'
theorem BoolF.no {P : Prop} (w : World) : BoolF P w (.returned (.bool false)) w := ⟨⟨_, rfl, fun h => by cases h⟩, rfl⟩
theorem BoolF.yes {P : Prop} (w : World) (h : P) : BoolF P w (.returned (.bool true)) w := ⟨⟨_, rfl, fun _ => h⟩, rfl⟩
theorem indexByte_mem (l : List UInt8) (c : UInt8) : (c ∈ l → 0 ≤ Lib.indexByte l c) ∧ (c ∉ l → Lib.indexByte l c = -1) := by
  induction l with
  | nil => exact ⟨fun h => (by cases h), fun _ => rfl⟩
  | cons a t ih =>
    unfold Lib.indexByte
    by_cases hac : a = c
    · subst hac
      exact ⟨fun _ => by simp, fun h => absurd (List.mem_cons_self ..) h⟩
    · have hb : (a == c) = false := by simpa using hac
      rw [hb]
      simp only [Bool.false_eq_true, if_false]
      by_cases hm : c ∈ t
      · have h1 := ih.1 hm
        refine ⟨fun _ => ?_, fun h => absurd (List.mem_cons_of_mem _ hm) h⟩
        have : (Lib.indexByte t c == -1) = false := by simp; omega
        rw [this]
        simp
        omega
      · have h1 := ih.2 hm
        refine ⟨fun h => ?_, fun _ => by rw [h1]; rfl⟩
        rcases List.mem_cons.1 h with e | e
        · exact absurd e.symm hac
        · exact absurd e hm
set_option maxRecDepth 100000 in
set_option maxHeartbeats 1000000 in
theorem indexByte_any (s : ByteArray) (c : Int) (w : World) :
    Calls Tryz.prog 26 #[.string s, .int .u8 c] w fun e w' => e = .returned (.int .i64 (Lib.indexByte s.data.toList c.toNat.toUInt8)) ∧ w = w' := by
  go_enter Tryz.func26, Tryz.ntmps26
  go_wp2
  rw [run_callFunc_extern Tryz.func49 (by kernel_rfl) (by kernel_rfl) (by kernel_rfl) (e := Extern.BytealgIndexByte.indexByte) (by kernel_rfl), Lib.run_indexByteString]
  simp only [Result.andThen]
  rw [Oper.upon_value]
  go_wp2
  go_ret
  exact ⟨rfl, rfl⟩
/-- A text of at most m bytes of an alphabet. -/
def OnlyP (l al : List UInt8) (m : Nat) : Prop := l.length ≤ m ∧ ∀ c ∈ l, c ∈ al
def OnlyR (l al : List UInt8) (t14 : Value) : Prop := ∃ k : Nat, k ≤ l.length ∧ t14 = .int .i64 k ∧ ∀ c ∈ l.take k, c ∈ al
set_option maxHeartbeats 800000 in
theorem only_any (l al : List UInt8) (m : Nat) (w : World) (_ : m ≤ 1000000) (_ : l.length ≤ 9223372036854775807) :
    Calls Tryz.prog 10 #[.string ⟨l.toArray⟩, .string ⟨al.toArray⟩, .int .i64 m] w (BoolF (OnlyP l al m) w) := by
  have hz : (ByteArray.mk l.toArray).size = l.length := List.size_toArray ..
  have hbt := hid (fun (k : Nat) (h : k < l.length) => (by rw [bt_list, List.getElem?_eq_getElem h] : bt ⟨l.toArray⟩ k = ((l[k]'h).toNat : Int)))
  have HZ := hid hz
  generalize hs : (ByteArray.mk l.toArray) = s at hz hbt HZ ⊢
  have hb := get_bt s
  clear hs
  by_cases hlm : l.length ≤ m
  · have hlm2 : s.size ≤ m := by omega
    have hd : decide (m < s.size) = false := by simp; omega
    clear hz
    go_enter Tryz.func10, Tryz.ntmps10
    go_wp2_with fail
    go_loop [14] (fun t14 => OnlyR l al t14) (fun t14 => l.length - (intOf t14).toNat)
    case atStart => exact ⟨0, Nat.zero_le _, rfl, by simp⟩
    case round =>
      obtain ⟨k, hk, rfl, hin⟩ := hrel
      have HIN := hid hin
      clear hin
      by_cases hlt : k < l.length
      · have hks : k < s.size := by have := HZ.out; omega
        have hck := hid (hbt.out k hlt)
        have hu8 : Hid ((bt s k).toNat.toUInt8 = l[k]'hlt) := hid (by rw [hck.out]; simp)
        have htk := hid (show l.take (k + 1) = l.take k ++ [l[k]'hlt] by rw [List.take_add_one, List.getElem?_eq_getElem hlt]; rfl)
        have hmem := hid (indexByte_mem al (l[k]'hlt))
        generalize l[k]'hlt = c at hck hu8 htk hmem
        go_wp2_with fail
        refine (indexByte_any ⟨al.toArray⟩ (bt s k) w).mono ?_
        rintro e w' ⟨rfl, rfl⟩
        rw [hu8.out]
        by_cases hc : c ∈ al
        · have h0 := hmem.out.1 hc
          have h1 : ¬ Lib.indexByte al c < 0 := by omega
          go_wp2_with fail
          go_round
          case rel => exact ⟨k + 1, by omega, by go_num, by rw [htk.out]; intro x hx; rcases List.mem_append.1 hx with hx | hx; (· exact HIN.out x hx); (simp at hx; subst hx; exact hc)⟩
          case measure => simp [intOf]; omega
        · have h0 := hmem.out.2 hc
          have h1 : Lib.indexByte al c < 0 := by omega
          clear h0
          go_wp2_with fail
          go_ret
          exact BoolF.no _
      · obtain rfl : k = l.length := by omega
        have hks : ¬ l.length < s.size := by have := HZ.out; omega
        go_wp2_with fail
        go_ret
        exact BoolF.yes _ ⟨hlm, by have := HIN.out; rwa [List.take_of_length_le (Nat.le_refl _)] at this⟩
  · have hlm2 : m < s.size := by omega
    clear hz
    go_enter Tryz.func10, Tryz.ntmps10
    go_wp2_with fail
    go_ret
    exact BoolF.no _
/-- A sign, so and so often. -/
def repF (k : Nat) (c : UInt8) : ByteArray := ⟨(List.replicate k c).toArray⟩
theorem repF_succ (k : Nat) (c : UInt8) : repF k c ++ (ByteArray.mk #[c]) = repF (k + 1) c := by
  unfold repF
  rw [show (ByteArray.mk #[c]) = ⟨[c].toArray⟩ from rfl, cat_lists, List.replicate_succ']
theorem repF_size (k : Nat) (c : UInt8) : (repF k c).size = k := by simp [repF, ByteArray.size]
end Go.Proofs.YtmmijmhdbpldpaaGreatDoor
/- Words among which something stands: a paragraph each; where the parts of a text stand. -/


namespace Go.Proofs.YtmmijmhdbpldpaaGreatDoor
open Go.RowKit
structure WordL (l : List UInt8) : Prop where
  pos : 0 < l.length
  len : l.length ≤ 20
  chr : ∀ c ∈ l, c ∈ wcs
theorem word_any (l : List UInt8) (w : World) (hl : l.length ≤ 9223372036854775807) : Calls Tryz.prog 9 #[.string ⟨l.toArray⟩] w (BoolF (WordL l) w) := by
  have HO := hid (only_any l wcs 20 w (by omega) hl)
  cases l with
  | nil =>
    go_enter Tryz.func9, Tryz.ntmps9
    go_wp2_with fail
    go_ret
    exact BoolF.no w
  | cons c r =>
    go_enter Tryz.func9, Tryz.ntmps9
    go_wp2_with fail
    refine HO.out.mono ?_
    rintro e w' ⟨⟨b, rfl, hb⟩, rfl⟩
    cases b with
    | false =>
      go_wp2_with fail
      go_ret
      exact BoolF.no w
    | true =>
      obtain ⟨h1, h2⟩ := hb rfl
      go_wp2_with fail
      go_ret
      exact BoolF.yes w ⟨by simp, h1, h2⟩
theorem wcs_no {c : UInt8} (h : c ∈ wcs) : c ≠ 32 ∧ c ≠ 9 := by
  revert c; decide
theorem WordL.cons {a : List UInt8} (h : WordL a) : ∃ c r, a = c :: r ∧ c ∈ wcs := by
  cases a with
  | nil => have := h.pos; simp at this
  | cons c r => exact ⟨c, r, rfl, h.chr c (List.mem_cons_self ..)⟩
/-- A word, a space and printable text behind are a paragraph's line. -/
theorem wordSp_line (a rest : List UInt8) (ha : WordL a) (hr : ∀ c ∈ rest, 32 ≤ c.toNat) (hl : rest.length ≤ 90000) : ParLine ⟨(a ++ 32 :: rest).toArray⟩ := by
  obtain ⟨c0, r, rfl, hc0⟩ := ha.cons
  have hlen := ha.len
  have hsz : (ByteArray.mk ((c0 :: r) ++ 32 :: rest).toArray).size ≤ 100000 := by rw [sz_mk, List.length_append]; simp only [List.length_cons] at hlen ⊢; omega
  have hb : bt ⟨((c0 :: r) ++ 32 :: rest).toArray⟩ 0 = (c0.toNat : Int) := bt_some rfl
  have htab : ∀ k, bt ⟨((c0 :: r) ++ 32 :: rest).toArray⟩ k ≠ 9 := fun k => bt_mem _ k (fun z => z ≠ 9) (by decide) (fun c hc => by
    rcases List.mem_append.1 hc with h | h
    · have := ha.chr c h
      revert this
      exact (by decide : ∀ c ∈ wcs, (c.toNat : Int) ≠ 9) c
    · rcases List.mem_cons.1 h with rfl | h
      · decide
      · have := hr c h
        omega)
  have first : ∀ (P : Int → Prop), (∀ c ∈ wcs, P (c.toNat : Int)) → P (bt ⟨((c0 :: r) ++ 32 :: rest).toArray⟩ 0) := fun P hc => by rw [hb]; exact hc c0 hc0
  have h32 := first (fun z => z ≠ 32) (by decide)
  refine { size := hsz, pos := by rw [sz_mk]; simp, tab := htab, q := fun k hk => by rw [reach0 h32 hk]; exact first (fun z => z ≠ 62 ∧ z ≠ 35) (by decide), h32 := h32, hr := first (fun z => z ≠ 42 ∧ z ≠ 45 ∧ z ≠ 95) (by decide), lt_ := first (fun z => z ≠ 60) (by decide), fence := first (fun z => z ≠ 126) (by decide), tick := first (fun z => z ≠ 96) (by decide), item := ?_ }
  intro g b nl w hw
  by_cases hd : bt ⟨((c0 :: r) ++ 32 :: rest).toArray⟩ 0 = 48 ∨ bt ⟨((c0 :: r) ++ 32 :: rest).toArray⟩ 0 = 49 ∨ bt ⟨((c0 :: r) ++ 32 :: rest).toArray⟩ 0 = 57
  · refine startListItem_dig g b nl _ w hw hsz htab hd (fun k hk => ?_)
    have hL : ((c0 :: r) ++ 32 :: rest)[(c0 :: r).length]? = some 32 := by
      rw [List.getElem?_append_right (Nat.le_refl _), Nat.sub_self]
      rfl
    rcases Nat.lt_trichotomy k (c0 :: r).length with h | h | h
    · have e : ((c0 :: r) ++ 32 :: rest)[k]? = some (c0 :: r)[k] := by rw [List.getElem?_append_left h]; exact List.getElem?_eq_getElem h
      rw [bt_some e]
      have := ha.chr _ (List.getElem_mem h)
      revert this
      exact (by decide : ∀ c ∈ wcs, (c.toNat : Int) ≠ 46 ∧ (c.toNat : Int) ≠ 41) _
    · rw [h, bt_some hL]
      decide
    · have := hk _ h
      rw [bt_some hL] at this
      exact absurd this.1 (by decide)
  · refine startListItem_no g b 0 0 nl _ w hw (by omega) (Nat.zero_le _) htab (fun k hk => ?_)
    rw [reach0 h32 hk]
    have := first (fun z => z = 48 ∨ z = 49 ∨ z = 57 ∨ NoItem z) (by unfold NoItem; decide)
    rcases this with e | e | e | e
    · exact absurd (.inl e) hd
    · exact absurd (.inr (.inl e)) hd
    · exact absurd (.inr (.inr e)) hd
    · exact e
/-- Where the middle part of a text stands. -/
theorem at_mid {t p q r : List UInt8} (e : t = p ++ q ++ r) (m : Nat) (h1 : p.length ≤ m) (h2 : m < p.length + q.length) : ∃ c ∈ q, bt ⟨t.toArray⟩ m = (c.toNat : Int) := by
  have h3 : m - p.length < q.length := by omega
  refine ⟨q[m - p.length], List.getElem_mem h3, bt_some ?_⟩
  rw [e, List.append_assoc, List.getElem?_append_right h1, List.getElem?_append_left h3]
  exact List.getElem?_eq_getElem h3
theorem ext_mid {t p q r : List UInt8} (e : t = p ++ q ++ r) (a b : Nat) (ha : a = p.length) (hb : b = p.length + q.length) : (ByteArray.mk t.toArray).extract a b = ⟨q.toArray⟩ := by
  subst ha hb
  rw [extract_mk]
  have h1 : t.take (p.length + q.length) = p ++ q := by
    rw [e]
    exact List.take_left' (by rw [List.length_append])
  have h2 : (p ++ q).drop p.length = q := List.drop_left' rfl
  show ByteArray.mk ((t.take (p.length + q.length)).drop p.length).toArray = _
  rw [h1, h2]
/-- A text without signs, of which autoLinkText makes something. -/
theorem inlC_quietA (o : Opt) (t out : List UInt8) (hl : t.length ≤ 100000) (hp : 0 < t.length) (htr : trimR (trimL t) = t) (hq : ∀ (g : Nat), ∀ c ∈ t, parF o g (c.toNat : Int) = none ∧ c ≠ 96) (ha : ∀ B g r, AutP o B g r out [plainK t]) : InlC o t out := by
  intro g r w hps hpar hne hbk
  refine inline_loop o g r ⟨t.toArray⟩ ⟨t.toArray⟩ w (fun _ em tk _ ks => em = 0 ∧ tk = false ∧ ks = []) (fun ks => ks = [plainK t]) hps hpar hne out (bsz hl) (by simp only [htr]) (bsz hl) ?_ (fun ks hF _ => ?_)
  · refine { start := ⟨rfl, rfl, rfl⟩, fin := ?_, quiet := ?_, tick := ?_, call := ?_ }
    · rintro em tk bk ks ⟨rfl, rfl, rfl⟩
      exact piece_all t hp
    · intro i em tk bk ks h _ _ _
      exact h
    · intro i em tk bk ks _ _ hi h96 _
      rw [sz_mk] at hi
      obtain ⟨c, _, h2, h3⟩ := bt_get hi
      rw [h3] at h96
      exact absurd (UInt8.toNat_inj.1 (by rw [show (96 : UInt8).toNat = 96 from rfl]; omega)) (hq 0 c h2).2
    · intro i em tk bk ks f rv _ _ hi hpf
      rw [sz_mk] at hi
      obtain ⟨c, _, h2, h3⟩ := bt_get hi
      rw [h3, (hq g c h2).1] at hpf
      cases hpf
  · subst hF
    have hm : mergeA [] [plainK t] = [plainK t] := by
      rw [mergeA_plain, mergeA, flushK]
      simp
    rw [hm]
    exact ⟨by simp, by simp [plainOf_plain]; omega, ha _ _ _⟩
end Go.Proofs.YtmmijmhdbpldpaaGreatDoor
/- FnBalanced: how its text is read. -/



namespace Go.Proofs.YtmmijmhdbpldpaaGreatDoor
open Go.RowKit
/-- A destination. -/
def dcs : List UInt8 := [97, 98, 47, 46]
structure DestL (d : List UInt8) : Prop where
  pos : 0 < d.length
  len : d.length ≤ 20
  chr : ∀ c ∈ d, c ∈ dcs
@[reducible] def bpL (img : Bool) : List UInt8 := if img then [33] else []
@[reducible] def bp (img : Bool) : Nat := if img then 1 else 0
theorem bpL_len (img : Bool) : (bpL img).length = bp img := by cases img <;> rfl
def balT (img : Bool) (a d : List UInt8) (n : Nat) : List UInt8 := bpL img ++ List.replicate n 91 ++ a ++ List.replicate n 93 ++ [40] ++ d ++ [41]
structure BalL (a d : List UInt8) (n : Nat) : Prop where
  a : WordL a
  d : DestL d
  n1 : 1 ≤ n
  n2 : n ≤ 60
variable {img : Bool} {a d : List UInt8} {n : Nat}
theorem balT_len : (balT img a d n).length = bp img + n + a.length + n + 1 + d.length + 1 := by
  unfold balT
  simp only [List.length_append, List.length_replicate, List.length_cons, List.length_nil, bpL_len]
theorem bp_le (img : Bool) : bp img ≤ 1 := by cases img <;> decide
theorem balT_sz (H : BalL a d n) : (balT img a d n).length ≤ 200 := by
  rw [balT_len]
  have := H.a.len; have := H.d.len; have := H.n2; have := bp_le img
  omega
def bcs : List UInt8 := [33, 91, 93, 40, 41, 97, 98, 122, 48, 49, 57, 47, 46]
theorem balT_mem (H : BalL a d n) {c : UInt8} (hc : c ∈ balT img a d n) : c ∈ bcs := by
  unfold balT at hc
  simp only [List.mem_append, List.mem_replicate, List.mem_cons, List.not_mem_nil, or_false] at hc
  rcases hc with (((((h | ⟨_, rfl⟩) | h) | ⟨_, rfl⟩) | rfl) | h) | rfl
  · cases img
    · have h2 : c ∈ ([] : List UInt8) := h
      cases h2
    · have h2 : c ∈ ([33] : List UInt8) := h
      rw [List.mem_singleton] at h2
      subst h2; decide
  · decide
  · have := H.a.chr c h
    revert this
    exact (by decide : ∀ c ∈ wcs, c ∈ bcs) c
  · decide
  · decide
  · have := H.d.chr c h
    revert this
    exact (by decide : ∀ c ∈ dcs, c ∈ bcs) c
  · decide
theorem bt_rep {t p r : List UInt8} {n : Nat} {x : UInt8} (e : t = p ++ List.replicate n x ++ r) (m : Nat) (h1 : p.length ≤ m) (h2 : m < p.length + n) : bt ⟨t.toArray⟩ m = (x.toNat : Int) := by
  obtain ⟨c, hc, h⟩ := at_mid e m h1 (by rw [List.length_replicate]; exact h2)
  rw [h, List.eq_of_mem_replicate hc]
theorem bt_one {t p r : List UInt8} {x : UInt8} (e : t = p ++ [x] ++ r) (m : Nat) (h : m = p.length) : bt ⟨t.toArray⟩ m = (x.toNat : Int) := by
  obtain ⟨c, hc, h⟩ := at_mid e m (by omega) (by simp only [List.length_cons, List.length_nil]; omega)
  simp only [List.mem_cons, List.not_mem_nil, or_false] at hc
  rw [h, hc]
theorem balT_true (a d : List UInt8) (n : Nat) : balT true a d n = [33] ++ List.replicate n 91 ++ a ++ List.replicate n 93 ++ [40] ++ d ++ [41] := rfl
theorem b33 (a d : List UInt8) (n : Nat) : bt ⟨(balT true a d n).toArray⟩ 0 = 33 := bt_one (p := []) (r := List.replicate n 91 ++ a ++ List.replicate n 93 ++ [40] ++ d ++ [41]) (x := 33) (by simp [balT_true]) 0 rfl
theorem b91 (k : Nat) (hk : k < n) : bt ⟨(balT img a d n).toArray⟩ (bp img + k) = 91 := bt_rep (p := bpL img) (n := n) (x := 91) (r := a ++ List.replicate n 93 ++ [40] ++ d ++ [41]) (by simp [balT]) _ (by rw [bpL_len]; omega) (by rw [bpL_len]; omega)
theorem bwd (i : Nat) (h1 : bp img + n ≤ i) (h2 : i < bp img + n + a.length) : ∃ c ∈ a, bt ⟨(balT img a d n).toArray⟩ i = (c.toNat : Int) :=
  at_mid (p := bpL img ++ List.replicate n 91) (q := a) (r := List.replicate n 93 ++ [40] ++ d ++ [41]) (by simp [balT]) i (by rw [List.length_append, bpL_len, List.length_replicate]; omega) (by rw [List.length_append, bpL_len, List.length_replicate]; omega)
theorem b93 (i : Nat) (h1 : bp img + n + a.length ≤ i) (h2 : i < bp img + n + a.length + n) : bt ⟨(balT img a d n).toArray⟩ i = 93 :=
  bt_rep (p := bpL img ++ List.replicate n 91 ++ a) (n := n) (x := 93) (r := [40] ++ d ++ [41]) (by simp [balT]) _ (by rw [List.length_append, List.length_append, bpL_len, List.length_replicate]; omega) (by rw [List.length_append, List.length_append, bpL_len, List.length_replicate]; omega)
theorem b40 : bt ⟨(balT img a d n).toArray⟩ (bp img + n + a.length + n) = 40 :=
  bt_one (p := bpL img ++ List.replicate n 91 ++ a ++ List.replicate n 93) (r := d ++ [41]) (x := 40) (by simp [balT]) _ (by simp only [List.length_append, bpL_len, List.length_replicate])
theorem bds (i : Nat) (h1 : bp img + n + a.length + n + 1 ≤ i) (h2 : i < bp img + n + a.length + n + 1 + d.length) : ∃ c ∈ d, bt ⟨(balT img a d n).toArray⟩ i = (c.toNat : Int) :=
  at_mid (p := bpL img ++ List.replicate n 91 ++ a ++ List.replicate n 93 ++ [40]) (q := d) (r := [41]) (by simp [balT]) i (by simp only [List.length_append, bpL_len, List.length_replicate, List.length_cons, List.length_nil]; omega) (by simp only [List.length_append, bpL_len, List.length_replicate, List.length_cons, List.length_nil]; omega)
theorem b41 : bt ⟨(balT img a d n).toArray⟩ (bp img + n + a.length + n + 1 + d.length) = 41 :=
  bt_one (p := bpL img ++ List.replicate n 91 ++ a ++ List.replicate n 93 ++ [40] ++ d) (r := []) (x := 41) (by simp [balT]) _ (by simp only [List.length_append, bpL_len, List.length_replicate, List.length_cons, List.length_nil])
@[reducible] def opK (img : Bool) (k : Nat) : Kind := if k = 0 then openK (opL img) (bp img + 1) else openK (opL false) (bp img + k + 1)
def kops (img : Bool) (m : Nat) : List Kind := (List.range m).map (opK img)
theorem kops_succ (img : Bool) (m : Nat) : kops img (m + 1) = kops img m ++ [opK img m] := by
  unfold kops
  rw [List.range_succ, List.map_append]
  rfl
theorem kops_len (img : Bool) (m : Nat) : (kops img m).length = m := by unfold kops; simp
theorem kops_get (img : Bool) {m k : Nat} (h : k < m) : (kops img m)[k]? = some (opK img k) := by
  unfold kops
  rw [List.getElem?_map, List.getElem?_range h]
  rfl
@[reducible] def balA (img : Bool) (m : Nat) : Nat := if m = 0 then 0 else bp img + m
def balJ (img : Bool) (a : List UInt8) (n : Nat) : JL := fun i em _ _ ks ops =>
  (∃ m, m < n ∧ i = em ∧ i = balA img m ∧ ks = kops img m ∧ ops = List.range m) ∨
  (em = bp img + n ∧ ks = kops img n ∧ bp img + n ≤ i ∧ i < bp img + n + a.length + n ∧ ops = List.range (n - (i - (bp img + n + a.length))))
def balF (img : Bool) (a d : List UInt8) (n : Nat) : Bool → ByteArray → List Kind → Prop := fun im u iks => im = img ∧ u = ⟨d.toArray⟩ ∧ iks = (List.range (n - 1)).map (fun k => plusK [91] (bp img + k + 2)) ++ [plainK (a ++ List.replicate (n - 1) 93)]
theorem balJ_next (H : BalL a d n) (m : Nat) (hm : m < n) (tk : Bool) (bk : List Value) : balJ img a n (bp img + m + 1) (bp img + m + 1) tk bk (kops img (m + 1)) (List.range (m + 1)) := by
  have := H.a.pos
  rcases Nat.lt_or_ge (m + 1) n with h | h
  · exact .inl ⟨m + 1, h, rfl, by unfold balA; rw [if_neg (by omega)]; omega, rfl, rfl⟩
  · obtain rfl : n = m + 1 := by omega
    exact .inr ⟨by omega, rfl, by omega, by omega, by rw [show bp img + m + 1 - (bp img + (m + 1) + a.length) = 0 from by omega]; rfl⟩
theorem openK_inj {i1 i2 : Bool} {j1 j2 : Nat} (h : openK (opL i1) j1 = openK (opL i2) j2) : i1 = i2 ∧ j1 = j2 := by
  simp only [Kind.mk.injEq, List.cons.injEq, Value.int.injEq, true_and, and_true] at h
  refine ⟨?_, by omega⟩
  have h1 := h.1
  cases i1 <;> cases i2
  · rfl
  · exact absurd h1 (by unfold lineV; intro e; simp only [Value.string.injEq] at e; have := congrArg ByteArray.size e; revert this; decide)
  · exact absurd h1 (by unfold lineV; intro e; simp only [Value.string.injEq] at e; have := congrArg ByteArray.size e; revert this; decide)
  · rfl
theorem parF_91 (g : Nat) : parF plainO g 91 = some (69, #[]) := rfl
theorem parF_33 (g : Nat) : parF plainO g 33 = some (70, #[]) := rfl
theorem parF_wcs (g : Nat) : ∀ c ∈ wcs, parF plainO g (c.toNat : Int) = none := by
  intro c hc
  have : ∀ c ∈ wcs, (parF plainO g (c.toNat : Int)).isNone = true := by unfold wcs; simp [parF, plainO]
  exact Option.isNone_iff_eq_none.1 (this c hc)
theorem parF_93 (g : Nat) : parF plainO g 93 = none := by simp [parF]
theorem bal_piece (H : BalL a d n) (c : Nat) (hc : c ≤ n) : (ByteArray.mk (balT img a d n).toArray).extract (bp img + n) (bp img + n + a.length + c) = ⟨(a ++ List.replicate c 93).toArray⟩ := by
  refine ext_mid (p := bpL img ++ List.replicate n 91) (q := a ++ List.replicate c 93) (r := List.replicate (n - c) 93 ++ [40] ++ d ++ [41]) ?_ _ _ (by simp only [List.length_append, bpL_len, List.length_replicate]) (by simp only [List.length_append, bpL_len, List.length_replicate]; omega)
  have e : List.replicate n (93 : UInt8) = List.replicate c 93 ++ List.replicate (n - c) 93 := by rw [List.replicate_append_replicate, show c + (n - c) = n from by omega]
  unfold balT
  rw [e]
  simp only [List.append_assoc]
theorem bal_label (c : Nat) (hc : c ≤ n) : (ByteArray.mk (balT img a d n).toArray).extract (bp img + (n - c)) (bp img + n + a.length + c) = ⟨(List.replicate c 91 ++ a ++ List.replicate c 93).toArray⟩ := by
  refine ext_mid (p := bpL img ++ List.replicate (n - c) 91) (q := List.replicate c 91 ++ a ++ List.replicate c 93) (r := List.replicate (n - c) 93 ++ [40] ++ d ++ [41]) ?_ _ _ (by simp only [List.length_append, bpL_len, List.length_replicate]) (by simp only [List.length_append, bpL_len, List.length_replicate]; omega)
  have e : List.replicate n (93 : UInt8) = List.replicate c 93 ++ List.replicate (n - c) 93 := by rw [List.replicate_append_replicate, show c + (n - c) = n from by omega]
  have e2 : List.replicate n (91 : UInt8) = List.replicate (n - c) 91 ++ List.replicate c 91 := by rw [List.replicate_append_replicate, show n - c + c = n from by omega]
  unfold balT
  rw [e, e2]
  simp only [List.append_assoc]
theorem bal_dest : (ByteArray.mk (balT img a d n).toArray).extract (bp img + n + a.length + n + 1) (bp img + n + a.length + n + 1 + d.length) = ⟨d.toArray⟩ :=
  ext_mid (p := bpL img ++ List.replicate n 91 ++ a ++ List.replicate n 93 ++ [40]) (q := d) (r := [41]) (by simp [balT]) _ _ (by simp only [List.length_append, bpL_len, List.length_replicate, List.length_cons, List.length_nil]) (by simp only [List.length_append, bpL_len, List.length_replicate, List.length_cons, List.length_nil])
theorem bal_open0 : (ByteArray.mk (balT true a d n).toArray).extract 0 2 = ⟨[33, 91].toArray⟩ ∨ n = 0 := by
  cases n with
  | zero => exact .inr rfl
  | succ n =>
    left
    exact ext_mid (p := []) (q := [33, 91]) (r := List.replicate n 91 ++ a ++ List.replicate (n + 1) 93 ++ [40] ++ d ++ [41]) (by simp [balT_true, List.replicate_succ]) _ _ rfl rfl
theorem bal_open (k : Nat) (hk : k < n) : (ByteArray.mk (balT img a d n).toArray).extract (bp img + k) (bp img + k + 1) = ⟨[91].toArray⟩ := by
  refine ext_mid (p := bpL img ++ List.replicate k 91) (q := [91]) (r := List.replicate (n - k - 1) 91 ++ a ++ List.replicate n 93 ++ [40] ++ d ++ [41]) ?_ _ _ (by simp only [List.length_append, bpL_len, List.length_replicate]) (by simp only [List.length_append, bpL_len, List.length_replicate, List.length_cons, List.length_nil])
  have e : List.replicate n (91 : UInt8) = List.replicate k 91 ++ ([91] ++ List.replicate (n - k - 1) 91) := by
    rw [show ([91] : List UInt8) = List.replicate 1 91 from rfl, List.replicate_append_replicate, List.replicate_append_replicate, show k + (1 + (n - k - 1)) = n from by omega]
  unfold balT
  rw [e]
  simp
theorem pieceK_none (s : ByteArray) (i : Nat) : pieceK s i i = [] := if_neg (Nat.lt_irrefl i)
theorem bal_fin (H : BalL a d n) : (kops img n ++ pieceK ⟨(balT img a d n).toArray⟩ (bp img + n) (bp img + n + a.length + (n - 1))).tail.map emK = (List.range (n - 1)).map (fun k => plusK [91] (bp img + k + 2)) ++ [plainK (a ++ List.replicate (n - 1) 93)] := by
  have hn := H.n1
  have ha := H.a.pos
  obtain ⟨m, rfl⟩ : ∃ m, n = m + 1 := ⟨n - 1, by omega⟩
  have hp : pieceK ⟨(balT img a d (m + 1)).toArray⟩ (bp img + (m + 1)) (bp img + (m + 1) + a.length + (m + 1 - 1)) = [plainK (a ++ List.replicate m 93)] := by
    unfold pieceK
    rw [if_pos (by omega)]
    have := bal_piece (img := img) (d := d) H m (by omega)
    rw [extract_mk] at this
    have := congrArg (fun b : ByteArray => b.data.toList) this
    rw [show m + 1 - 1 = m from rfl]
    simp only [List.toList_toArray] at this
    rw [this]
  rw [hp, show m + 1 - 1 = m from rfl]
  unfold kops
  rw [List.range_succ_eq_map, List.map_cons, List.cons_append, List.tail_cons, List.map_append, List.map_map, List.map_map]
  congr 1
theorem dcs_dc : ∀ c ∈ dcs, DC (c.toNat : Int) := by unfold dcs DC; decide
theorem wcs_ld : ∀ c ∈ wcs, LDw (c.toNat : Int) := by unfold wcs LDw; decide
theorem balH (img : Bool) (H : BalL a d n) (g : Nat) (r : PSr) (w : World) (hlk : r.links = none) : InlHL plainO w.heap.size g r ⟨(balT img a d n).toArray⟩ w (balJ img a n) (balF img a d n) := by
  have hlen := balT_len (img := img) (a := a) (d := d) (n := n)
  have hsz := balT_sz (img := img) H
  have hn1 := H.n1
  have hap := H.a.pos
  have hdp := H.d.pos
  have hbp := bp_le img
  have hA : ∀ m, m < n → (m = 0 ∧ img = true ∧ bt ⟨(balT img a d n).toArray⟩ (balA img m) = 33) ∨ (balA img m = bp img + m ∧ bt ⟨(balT img a d n).toArray⟩ (balA img m) = 91) := by
    intro m hm
    unfold balA
    by_cases h0 : m = 0
    · subst h0
      cases img with
      | true => exact .inl ⟨rfl, rfl, b33 a d n⟩
      | false => exact .inr ⟨rfl, b91 (img := false) 0 hm⟩
    · rw [if_neg h0]
      exact .inr ⟨rfl, b91 m hm⟩
  refine { start := .inl ⟨0, hn1, rfl, rfl, rfl, rfl⟩, more := ?_, quiet := ?_, tick := ?_, call := ?_, close := ?_ }
  · rintro em tk bk ks ops (⟨m, hm, _, h, _⟩ | ⟨_, _, _, h, _⟩)
    · rw [sz_mk] at h
      unfold balA at h
      split at h <;> omega
    · rw [sz_mk] at h
      omega
  · rintro i em tk bk ks ops (⟨m, hm, h0, h, _, _⟩ | ⟨rfl, rfl, h1, h2, rfl⟩) _ hi hf hq
    · exfalso
      rw [h] at hf
      rcases hA m hm with ⟨_, _, e⟩ | ⟨_, e⟩
      · rw [e, parF_33] at hf; cases hf
      · rw [e, parF_91] at hf; cases hf
    · rcases Nat.lt_or_ge i (bp img + n + a.length) with h3 | h3
      · refine .inr ⟨rfl, rfl, by omega, by omega, ?_⟩
        rw [show i - (bp img + n + a.length) = 0 from by omega, show i + 1 - (bp img + n + a.length) = 0 from by omega]
      · exfalso
        rcases hq with hq | hq
        · exact hq (b93 i h3 h2)
        · have := congrArg List.length hq
          simp at this
          omega
  · intro i em tk bk ks ops _ _
    exact bt_mem _ i (fun z => z ≠ 96) (by decide) (fun c hc => by
      have := balT_mem H hc
      revert this
      exact (by decide : ∀ c ∈ bcs, (c.toNat : Int) ≠ 96) c)
  · rintro i em tk bk ks ops f rv (⟨m, hm, rfl, h, rfl, rfl⟩ | ⟨rfl, rfl, h1, h2, rfl⟩) hei hi hf W hin hmod
    · have hWs : w.heap.size ≤ W.heap.size := hmod.size
      rcases hA m hm with ⟨rfl, rfl, e⟩ | ⟨h4, e⟩
      · rw [← h] at e
        rw [e, parF_33] at hf
        simp only [Option.some.injEq, Prod.mk.injEq] at hf
        obtain ⟨rfl, rfl⟩ := hf
        obtain rfl : i = 0 := h
        have hb1 : bt ⟨(balT true a d n).toArray⟩ (0 + 1) = 91 := b91 (img := true) 0 (by omega)
        refine (imageOpen_any _ ⟨(balT true a d n).toArray⟩ 0 W (by rw [sz_mk]; omega) (by rw [sz_mk]; omega) hb1).mono ?_
        rintro e' w' ⟨b, rfl, hb, hblk, hbel⟩
        have he : (ByteArray.mk (balT true a d n).toArray).extract 0 (0 + 2) = ⟨[33, 91].toArray⟩ := by
          rcases bal_open0 (a := a) (d := d) (n := n) with h5 | h5
          · exact h5
          · omega
        rw [he] at hblk
        refine ⟨bk, hin.below hbel, Mod.below hbel (fun k _ h2 => .inr (Nat.le_trans hWs h2)), KeepT.below hbel, .inr ⟨_, openK (opL true) 2, 0, 2, rfl, ⟨b, rfl, hblk, Nat.le_trans hWs hb⟩, (openK_apart _ _), Nat.le_refl _, Nat.zero_le _, by omega, by omega, by rw [sz_mk]; omega, .inr ⟨true, 2, rfl, ?_⟩⟩⟩
        have hj := balJ_next (img := true) H 0 hm tk bk
        rw [kops_succ] at hj
        rw [pieceK_none, List.append_nil]
        exact hj
      · have h5 : i = bp img + m := by rw [h, h4]
        rw [← h] at e
        rw [e, parF_91] at hf
        simp only [Option.some.injEq, Prod.mk.injEq] at hf
        obtain ⟨rfl, rfl⟩ := hf
        refine (linkOpen_any _ ⟨(balT img a d n).toArray⟩ i W hi (by rw [sz_mk]; omega)).mono ?_
        rintro e' w' ⟨b, rfl, hb, hblk, hbel⟩
        rw [h5, bal_open m hm] at hblk
        rw [sz_mk] at hi
        have hm0 : m = 0 → img = false := fun e0 => by
          subst e0
          cases img with
          | false => rfl
          | true => simp [balA, bp] at h4
        have hop : openK (opL false) (bp img + m + 1) = opK img m := by
          unfold opK
          by_cases e0 : m = 0
          · rw [if_pos e0, hm0 e0, e0]
          · rw [if_neg e0]
        refine ⟨bk, hin.below hbel, Mod.below hbel (fun k _ h2 => .inr (Nat.le_trans hWs h2)), KeepT.below hbel, .inr ⟨_, openK (opL false) (bp img + m + 1), i, i + 1, rfl, ⟨b, rfl, hblk, Nat.le_trans hWs hb⟩, (openK_apart _ _), Nat.le_refl _, by rw [sz_mk]; omega, by omega, by omega, by rw [sz_mk]; omega, .inr ⟨false, bp img + m + 1, rfl, ?_⟩⟩⟩
        have hj := balJ_next (img := img) H m hm tk bk
        rw [kops_succ] at hj
        rw [pieceK_none, List.append_nil, hop, kops_len, h5, ← List.range_succ]
        exact hj
    · exfalso
      rcases Nat.lt_or_ge i (bp img + n + a.length) with h3 | h3
      · obtain ⟨x, hx, e⟩ := bwd (d := d) i h1 h3
        rw [e, parF_wcs g x (H.a.chr x hx)] at hf
        cases hf
      · rw [b93 i h3 h2, parF_93] at hf
        cases hf
  · rintro i em tk bk ks ops oi (⟨m, hm, h0, h, _, _⟩ | ⟨rfl, rfl, h1, h2, hops⟩) hei hi h93 img' j ob W hki hin hmod hob
    · exfalso
      rw [h] at h93
      rcases hA m hm with ⟨_, _, e⟩ | ⟨_, e⟩
      · rw [e] at h93; omega
      · rw [e] at h93; omega
    · have hWs : w.heap.size ≤ W.heap.size := hmod.size
      have h3 : bp img + n + a.length ≤ i := by
        rcases Nat.lt_or_ge i (bp img + n + a.length) with h3 | h3
        · exfalso
          obtain ⟨x, hx, e⟩ := bwd (d := d) i h1 h3
          have := H.a.chr x hx
          rw [e] at h93
          revert this h93
          exact (by decide : ∀ x ∈ wcs, (x.toNat : Int) = 93 → False) x |> fun f h p => f p h
        · exact h3
      obtain ⟨k, hk⟩ : ∃ k, i = bp img + n + a.length + k := ⟨i - (bp img + n + a.length), by omega⟩
      have hkn : k < n := by omega
      rw [show n - (i - (bp img + n + a.length)) = (n - k - 1) + 1 from by omega, List.range_succ] at hops
      obtain ⟨rfl, ho⟩ := List.append_inj' hops rfl
      simp only [List.cons.injEq, and_true] at ho
      subst ho
      rw [kops_get img (by omega)] at hki
      simp only [Option.some.injEq] at hki
      have hj : j = bp img + (n - k) := by
        unfold opK at hki
        split at hki
        · have := (openK_inj hki).2; omega
        · have := (openK_inj hki).2; omega
      rcases Nat.lt_or_ge (k + 1) n with hk1 | hk1
      · obtain ⟨l, vs, hps1, _⟩ := id hin
        refine (linkClose_no g ob _ ⟨(balT img a d n).toArray⟩ _ i j W hps1 hlk hob (by rw [sz_mk]; omega) (by omega) (by rw [sz_mk]; omega) (b93 (i + 1) (by omega) (by omega)) (fun W2 => ?_)).mono ?_
        · rw [hj, hk, bal_label k (by omega)]
          cases k with
          | zero =>
            rw [List.replicate_zero, List.replicate_zero, List.nil_append, List.append_nil]
            refine (normLabel_word ⟨a.toArray⟩ (a.length - 1) W2 (by rw [sz_mk]; omega) (by rw [sz_mk]; have := H.a.len; omega) (fun m hm => ?_) (fun h => ?_) (fun h => ?_)).mono ?_
            · rw [sz_mk] at hm
              rw [bt_some (List.getElem?_eq_getElem hm)]
              exact wcs_ld _ (H.a.chr _ (List.getElem_mem hm))
            · exact absurd (H.a.chr _ (by simpa using h)) (by decide)
            · exact absurd (H.a.chr _ (by simpa using h)) (by decide)
            · rintro e w' ⟨rfl, hb⟩
              exact ⟨_, rfl, hb⟩
          | succ k =>
            refine (normLabel_br _ W2 (by rw [sz_mk]; have := H.a.len; simp; omega) (by simp [List.replicate_succ])).mono ?_
            rintro e w' ⟨rfl, rfl⟩
            exact ⟨_, rfl, Below.refl _ _⟩
        · rintro e w' ⟨rfl, hbel⟩
          refine ⟨hin.below hbel, Mod.below hbel (fun k _ h2 => .inr (Nat.le_trans hWs h2)), KeepT.below hbel, .inl ⟨rfl, .inr ⟨rfl, rfl, by omega, by omega, ?_⟩⟩⟩
          rw [show n - (i + 1 - (bp img + n + a.length)) = n - k - 1 from by omega]
      · obtain rfl : k = n - 1 := by omega
        have hi1 : i + 1 = bp img + n + a.length + n := by omega
        have hi2 : i + 2 = bp img + n + a.length + n + 1 := by omega
        have himg : img' = img := by
          unfold opK at hki
          rw [if_pos (by omega)] at hki
          exact (openK_inj hki).1.symm
        subst himg
        have hx : (ByteArray.mk (balT img' a d n).toArray).extract (i + 2) (i + 2 + d.length) = ⟨d.toArray⟩ := by rw [hi2]; exact bal_dest
        have hdno : ∀ x, x ∉ dcs → x ∉ d := fun x hx hd => hx (H.d.chr x hd)
        refine (linkClose_yes _ _ ⟨(balT img' a d n).toArray⟩ i (i + 2 + d.length) W (by rw [sz_mk]; omega) (by rw [hi1]; exact b40) (by omega) (by rw [sz_mk]; omega) (fun m hm1 hm2 => ?_) (by rw [hi2]; exact b41) (by rw [hx]; exact hdno _ (by decide)) (by rw [hx]; exact hdno _ (by decide))).mono ?_
        · obtain ⟨x, hxd, e⟩ := bds (img := img') (a := a) (d := d) (n := n) m (by omega) (by omega)
          rw [e]
          exact dcs_dc x (H.d.chr x hxd)
        · rintro e w' ⟨b, rfl, hb, hblk, hbel⟩
          rw [hx] at hblk
          refine ⟨hin.below hbel, Mod.below hbel (fun k _ h2 => .inr (Nat.le_trans hWs h2)), KeepT.below hbel, .inr ⟨b, ⟨d.toArray⟩, ?_, hblk, Nat.le_trans hWs hb, by omega, ⟨?_, ?_⟩, fun W2 => ?_, rfl, rfl, ?_⟩⟩
          · rw [sz_mk, hlen, show i + 2 + d.length + 1 = bp img' + n + a.length + n + 1 + d.length + 1 from by omega]
          · unfold pieceK
            rw [if_pos (by omega), List.length_append, kops_len]
            simp only [List.length_cons, List.length_nil]
            omega
          · have h7 := slot_piece ⟨(balT img' a d n).toArray⟩ (bp img' + n) i
            have h8 := H.n2
            rw [List.length_append, kops_len]
            omega
          · refine (linkCorner_no _ W2 (by rw [sz_mk]; have := H.d.len; omega) (fun m _ => bt_mem _ m (fun z => z ≠ 37) (by decide) (fun x hx => by
              have := H.d.chr x hx
              revert this
              exact (by decide : ∀ x ∈ dcs, (x.toNat : Int) ≠ 37) x))).mono ?_
            rintro e w2 ⟨rfl, rfl⟩
            exact ⟨false, rfl, Below.refl _ _⟩
          · rw [hk]
            exact bal_fin H
end Go.Proofs.YtmmijmhdbpldpaaGreatDoor
/- Images: what is printed of one whose text is any list of plain parts. -/

namespace Go.Proofs.YtmmijmhdbpldpaaGreatDoor
open Go.RowKit
/-- The value prints as a text. -/
def PrintsT (w : World) (b : Nat) (bs : List UInt8) (y : Value) (out : List UInt8) : Prop :=
  ∃ u x f v, y = .iface u x ∧ (∀ W, (method 475 u x "PrintText").run Tryz.prog W = .ok (f, v) W) ∧ (∀ args W, (callFunc f args).run Tryz.prog W = .ok (.enter f args) W) ∧
    ∀ B W, Kept b w W → IsBuf B b bs W → B ≤ W.heap.size → bs.length + out.length ≤ 1000000 → Calls Tryz.prog f #[v, .pointer (some ⟨b, 0, none⟩)] W (PrintP B b bs out W)
theorem PrintsT.kept {w w' : World} {b : Nat} {bs : List UInt8} {y : Value} {out : List UInt8} (h : PrintsT w b bs y out) (hk : Kept b w w') : PrintsT w' b bs y out := by
  obtain ⟨u, x, f, v, h1, h2, h3, h4⟩ := h
  exact ⟨u, x, f, v, h1, h2, h3, fun B W hk' => h4 B W (Lib.OthersKept.trans hk hk')⟩
set_option maxRecDepth 20000 in
set_option maxHeartbeats 1600000 in
theorem plainText_gen {ty : TypeId} {cs : Array Value} (B b pb : Nat) (bs : List UInt8) (s : ByteArray) (w : World) (hblk : Blk w pb ty cs) (h0 : cs[0]? = some (.string s)) (hbuf : IsBuf B b bs w) (hB : B ≤ w.heap.size) (hs : s.size ≤ 100000) (hl : bs.length ≤ 1000000) :
    Calls Tryz.prog 255 #[.pointer (some ⟨pb, 0, none⟩), .pointer (some ⟨b, 0, none⟩)] w (PrintP B b bs (esc s.data.toList) w) := by
  have c0 := hblk.at_ 0 h0
  have HBLK := hid hblk
  have HBUF := hid hbuf
  have H0 := hid h0
  have hg := hblk.lt
  clear hblk hbuf h0
  go_enter Tryz.func255, Tryz.ntmps255
  go_region_law (first
    | (go_simp; go_at_call 257; refine (htmlEscaper_any _).mono ?_; rintro e w4 ⟨n4, rfl, hn4, hp4, hb4⟩; have c0' := Blk.at_ (Blk.mod (w := World.drew w) (S := fun _ => False) HBLK.out (Mod.below' hb4) (fun x => x)) 0 H0.out)
    | (go_simp; go_at_call 258; refine (pairs_write B b n4 bs s _ hp4 (IsBuf.old (w := World.drew w) HBUF.out hb4) (Nat.le_trans hB hb4.size) hs hl).mono ?_; rintro e w5 ⟨rfl, hi5, hb5, hk5⟩))
  all_goals go_wp2
  all_goals go_end0
  all_goals exact ⟨rfl, hi5, ((below_drewN (Below.refl B w) 1).trans (hb4.mono hB)).trans hb5, (show Kept b (World.drew w) w5 from Lib.OthersKept.trans (Lib.OthersKept.below (Lib.OthersKept.refl _ _ (World.drew w)) hb4) hk5)⟩
def KPrintsT (k : Kind) (out : List UInt8) : Prop := ∀ (w : World) (B0 b : Nat) (bs : List UInt8) (v : Value), IsItem w B0 v k → w.heap.size ≤ b → PrintsT w b bs v out
theorem plain_kprintsT (l : List UInt8) (hl : l.length ≤ 100000) : KPrintsT (plainK l) (esc l) := by
  rintro w B0 b bs v ⟨pb, rfl, hblk, _⟩ hb
  refine ⟨_, _, 255, .pointer (some ⟨pb, 0, none⟩), rfl, fun W => by kernel_rfl, Go.Proofs.enters_of Tryz.func255 (by kernel_rfl) rfl, fun B W hk hbf hB hlen => ?_⟩
  have hblk' : Blk W pb 137 #[.string ⟨l.toArray⟩] := hblk.kept hk (by have := hblk.lt; omega) (by decide : (137 : Nat) ≠ 5)
  exact plainText_gen B b pb bs ⟨l.toArray⟩ W hblk' rfl hbf hB (by show l.toArray.size ≤ 100000; rw [List.size_toArray]; exact hl) (by omega)
theorem plus_kprintsT (l : List UInt8) (j : Nat) (hl : l.length ≤ 100000) : KPrintsT (plusK l j) (esc l) := by
  rintro w B0 b bs v ⟨pb, rfl, hblk, _⟩ hb
  refine ⟨_, _, 255, .pointer (some ⟨pb, 0, none⟩), rfl, fun W => by kernel_rfl, Go.Proofs.enters_of Tryz.func255 (by kernel_rfl) rfl, fun B W hk hbf hB hlen => ?_⟩
  have hblk' : Blk W pb 139 #[.string ⟨l.toArray⟩, .int .i64 j] := hblk.kept hk (by have := hblk.lt; omega) (by decide : (139 : Nat) ≠ 5)
  exact plainText_gen B b pb bs ⟨l.toArray⟩ W hblk' rfl hbf hB (by show l.toArray.size ≤ 100000; rw [List.size_toArray]; exact hl) (by omega)
def imHead (u : List UInt8) : List UInt8 := [60, 105, 109, 103, 32, 115, 114, 99, 61, 34] ++ u ++ [34] ++ [32, 97, 108, 116, 61, 34]
def imOut (u t : List UInt8) : List UInt8 := imHead u ++ t ++ [34] ++ [32, 47, 62]
theorem imHead_len (u : List UInt8) : (imHead u).length = u.length + 17 := by unfold imHead; simp
theorem image_bytes (u : ByteArray) : (ByteArray.mk #[60, 105, 109, 103, 32, 115, 114, 99, 61, 34] ++ u) ++ ByteArray.mk #[34] = ⟨([60, 105, 109, 103, 32, 115, 114, 99, 61, 34] ++ u.data.toList ++ [34]).toArray⟩ := by
  have e : u = ⟨u.data.toList.toArray⟩ := ByteArray.ext Array.toArray_toList.symm
  rw [show ByteArray.mk #[60, 105, 109, 103, 32, 115, 114, 99, 61, 34] = ⟨[60, 105, 109, 103, 32, 115, 114, 99, 61, 34].toArray⟩ from rfl, show ByteArray.mk #[34] = ⟨[34].toArray⟩ from rfl]
  rw [e]
  simp only [cat_lists]
end Go.Proofs.YtmmijmhdbpldpaaGreatDoor
/- Images: the HTML of one, and the item that it is. -/


namespace Go.Proofs.YtmmijmhdbpldpaaGreatDoor
open Go.RowKit
theorem buf_bytes (B b : Nat) (l : List UInt8) (w : World) (h : IsBuf B b l w) (h0 : 0 < l.length) :
    Calls Tryz.prog 271 #[.pointer (some ⟨b, 0, none⟩)] w fun e w' => ∃ gb cap n, e = .returned (.slice (some ⟨gb, 0, none⟩) l.length cap) ∧ (∀ (j : Nat) (c : UInt8), l[j]? = some c → w.cell? ⟨gb, j, none⟩ = some (.int .u8 c.toNat)) ∧ w' = w.drewN n := by
  refine Calls.mono (Any.Buffer_Bytes Tryz.layBB B b (Lib.byteCells l) w h) ?_
  rintro e w' ⟨v, rfl, hrow, n, rfl⟩
  rw [Lib.byteCells_length] at hrow
  rcases hrow.2 with ⟨_, h1⟩ | ⟨gb, cap, cur, rfl, _, hh, h4, _, h5, h6⟩
  · omega
  · refine ⟨gb, cap, n, rfl, fun j c hj => ?_, rfl⟩
    have hjl := (List.getElem?_eq_some_iff.1 hj).1
    have e1 : (Lib.byteCells l)[j]? = some (.int .u8 c.toNat) := by
      unfold Lib.byteCells
      rw [List.getElem?_map, hj]
      rfl
    have hb : Blk w gb 5 cur := hh
    rw [hb.cell j]
    have e2 : (cur.toList.take (l.length * 1))[j]? = some (.int .u8 c.toNat) := by rw [h6]; exact e1
    rw [List.getElem?_take, if_pos (by omega)] at e2
    simpa using e2
set_option maxRecDepth 20000 in
set_option maxHeartbeats 3200000 in
theorem imageHTML_gen (B q b base : Nat) (bs : List UInt8) (u : ByteArray) (lc : Bool) (inner : Sl) (ys : List Value) (outs : List (List UInt8)) (w : World) (h : IsLinkG w b base inner u lc ys) (hn : inner.n ≤ 1000000) (h0 : 0 < inner.n) (hbq : b ≠ q) (hbuf : IsBuf B q bs w) (hB : B ≤ w.heap.size) (hu : u.size ≤ 10000)
    (hlo : outs.length = ys.length) (hp : ∀ (i : Nat) y o, ys[i]? = some y → outs[i]? = some o → PrintsT w q (bs ++ imHead u.data.toList ++ (outs.take i).flatten) y o) (hl : bs.length + u.size + 21 + outs.flatten.length ≤ 1000000) (hq : ∀ i, i < u.size → Plainly (bt u i)) (h10 : ∀ c ∈ outs.flatten, c ≠ 10) :
    Calls Tryz.prog 268 #[.pointer (some ⟨b, 0, none⟩), .pointer (some ⟨q, 0, none⟩)] w (PrintP B q bs (imOut u.data.toList outs.flatten) w) := by
  have c1 := h.1.at_ 1 (v := .string u) rfl
  have hrow := h.2
  have hlen : ys.length = inner.n := by have := hrow.1; omega
  obtain ⟨ia, n, c⟩ := inner
  dsimp only at hn h0 hlen
  obtain ⟨ib, csr, rfl, hrb, _, hnc, _, hcj, _⟩ := row_blk (w := w) (vs := ys) hrow h0
  obtain ⟨bcs, hbb⟩ := hbuf.blk
  have hrq : ib ≠ q := Blk.ne_ hrb hbb (by decide)
  have HRB := hid hrb
  have HCJ := hid hcj
  have H := hid h.1
  have HP := hid hp
  have HLO := hid hlo
  have HLEN := hid hlen
  have HQ := hid hq
  have H10 := hid h10
  clear hq h10
  have HBUF := hid hbuf
  have hul : u.data.toList.length = u.size := (Lib.size_eq u).symm
  have hc1 : ¬ 9223372036854775807 < 10 + u.size := by omega
  have hc2 : ¬ 9223372036854775807 < 10 + u.size + 1 := by omega
  have HSB := hid (image_bytes u)
  have HSZ := hid (show (((ByteArray.mk #[60, 105, 109, 103, 32, 115, 114, 99, 61, 34] ++ u) ++ ByteArray.mk #[34]) : ByteArray).size + bs.length ≤ 2000000 from by rw [ByteArray.size_append, ByteArray.size_append]; show 10 + u.size + 1 + bs.length ≤ 2000000; omega)
  clear h hbuf hrow hrb hcj hp hlo hlen hbb
  go_enter Tryz.func268, Tryz.ntmps268
  go_wp2_with fail
  go_region_law (first
    | (go_simp; go_at_call 264; refine (htmlLinkEscaper_any _).mono ?_; rintro e w4 ⟨n4, rfl, hn4, hp4, hb4⟩; have HP4 := hid hp4; clear hp4; have c1' := Blk.at_ (Blk.mod (w := World.drew w) (S := fun _ => False) H.out (Mod.below' hb4) (fun x => x)) 1 (v := .string u) rfl)
    | (go_simp; go_at_call 265; refine (linkReplace_any n4 u _ HP4.out (by omega) HQ.out).mono ?_; rintro e w5 ⟨rfl, hb5⟩)
    | (go_simp; go_at_call 245; refine (write_str B q bs _ w5 (IsBuf.old (IsBuf.old (w := World.drew w) HBUF.out hb4) hb5) (Nat.le_trans (Nat.le_trans hB hb4.size) hb5.size) (by have := HSZ.out; omega)).mono ?_; rintro e w6 ⟨rfl, hi6, hb6, hk6⟩))
  all_goals
    rw [HSB.out] at hi6
    have hk06 : Kept q w w6 := (show Kept q (World.drew w) w6 from Lib.OthersKept.trans (Lib.OthersKept.below (Lib.OthersKept.below (Lib.OthersKept.refl _ _ (World.drew w)) hb4) hb5) hk6)
    have hb06 : Below B w w6 := ((below_drewN (Below.refl B w) 1).trans (hb4.mono hB)).trans ((hb5.mono (Nat.le_trans hB hb4.size)).trans hb6)
    have HK6 := hid hk06
    have HB6 := hid hb06
    have HI6 := hid hi6
    clear c1' hb4 hb5 hb6 hk6 hk06 hb06 hi6 HP4 hn4 c1 HBUF HSB HSZ
    go_wp2_with fail
    refine (write_str B q _ ⟨#[32, 97, 108, 116, 61, 34]⟩ w6 HI6.out (Nat.le_trans hB HB6.out.size) (by have : (ByteArray.mk #[32, 97, 108, 116, 61, 34]).size = 6 := rfl; simp; omega)).mono ?_
    rintro e w7 ⟨rfl, hi7, hb7, hk7⟩
    have HK7 := hid (Lib.OthersKept.trans HK6.out hk7)
    have HB7 := hid (HB6.out.trans hb7)
    have HI7 := hid (show IsBuf B q (bs ++ imHead u.data.toList) w7 from by unfold imHead; simpa [List.append_assoc] using hi7)
    clear hi7 hb7 hk7 HK6 HB6 HI6
    go_wp2_with fail
    refine (buf_len B q _ w7 HI7.out).mono ?_
    rintro e w8 ⟨he8, n8, hw8⟩
    rw [show (bs ++ imHead u.data.toList).length = bs.length + u.size + 17 from by rw [List.length_append, imHead_len, hul]; omega] at he8
    subst he8
    have HB78 := hid (show Below w7.heap.size w7 w8 from by rw [hw8]; exact below_drewN (Below.refl _ _) n8)
    have HK8 := hid (Lib.OthersKept.below HK7.out HB78.out)
    have HB8 := hid (HB7.out.trans (HB78.out.mono (Nat.le_trans hB HB7.out.size)))
    have HI8 := hid (IsBuf.old HI7.out HB78.out)
    clear hw8 HK7 HB7 HI7 HB78
    have c0 := (H.out.kept HK8.out hbq (by decide)).at_ 0 (v := .slice (some ⟨ib, 0, none⟩) n c) rfl
    have HC2 : Hid (∀ i y, ys[i]? = some y → ∀ wr, Kept q w wr → wr.cell? ⟨ib, i, none⟩ = some y) := hid (fun i y hy wr hk => by
      have hi : i < n := by have := (List.getElem?_eq_some_iff.1 hy).1; have := HLEN.out; omega
      rw [(HRB.out.kept hk hrq (by decide)).cell i, HCJ.out i hi]
      exact hy)
    have HDL := hid (show (bs ++ imHead u.data.toList).length = bs.length + u.size + 17 from by rw [List.length_append, imHead_len, hul]; omega)
    go_wp2_with fail
    go_loopw [27] (fun t wr => DocR B q n (bs ++ imHead u.data.toList) outs w8 t wr) (fun t _ => n - (intOf t).toNat)
    case atStart => exact ⟨0, Nat.zero_le _, rfl, by simpa using HI8.out, Below.refl _ _, Lib.OthersKept.refl _ _ _⟩
    case round =>
      obtain ⟨i, hi, rfl, hbf, hbel, hk⟩ := hrel
      by_cases hlt : i < n
      · have hy : i < ys.length := by rw [HLEN.out]; exact hlt
        have ho : i < outs.length := by rw [HLO.out]; exact hy
        have hk7r : Kept q w _ := Lib.OthersKept.trans HK8.out hk
        obtain ⟨u1, x, f, v, hyv, hm, he, hcall⟩ := HP.out i _ _ (List.getElem?_eq_getElem hy) (List.getElem?_eq_getElem ho)
        have hc' := HC2.out i _ (List.getElem?_eq_getElem hy) _ hk7r
        rw [hyv] at hc'
        have htl := take_len outs i
        have htl1 := take_len outs (i + 1)
        have htf := take_flat outs i _ (List.getElem?_eq_getElem ho)
        rw [htf, List.length_append] at htl1
        have HCALL := hid (hcall B _ hk7r hbf (Nat.le_trans hB (HB8.out.trans hbel).size) (by rw [List.length_append, HDL.out]; omega))
        have HTF := hid htf
        have HK := hid hk
        have HBL := hid hbel
        clear hk hbf hbel hyv hcall htf htl htl1 hk7r
        go_wp2_with fail
        refine HCALL.out.mono ?_
        rintro e w1 ⟨rfl, hb1, hbl1, hk1⟩
        have HB1 := hid hb1
        have HBL1 := hid hbl1
        have HK1 := hid hk1
        clear hb1 hbl1 hk1
        go_wp2_with fail
        go_roundw
        case rel => exact ⟨i + 1, by omega, by go_num, by rw [HTF.out, ← List.append_assoc]; exact HB1.out, HBL.out.trans HBL1.out, Lib.OthersKept.trans HK.out HK1.out⟩
        case measure => simp [intOf]; omega
      · obtain rfl : i = n := by omega
        have ht : outs.take i = outs := List.take_of_length_le (by rw [HLO.out, HLEN.out]; exact Nat.le_refl _)
        rw [ht] at hbf
        have HBF := hid hbf
        have HK := hid (Lib.OthersKept.trans HK8.out hk)
        have HBL := hid (HB8.out.trans hbel)
        clear hbf hbel hk ht
        have hfl : (bs ++ imHead u.data.toList ++ outs.flatten).length = bs.length + u.size + 17 + outs.flatten.length := by rw [List.length_append, HDL.out]
        go_wp2_with fail
        refine (buf_bytes B q _ _ HBF.out (by omega)).mono ?_
        rintro e w9 ⟨gb, cap, n9, he9, hcb, hw9⟩
        obtain ⟨N, hNe⟩ : ∃ N, N = bs.length + u.size + 17 + outs.flatten.length := ⟨_, rfl⟩
        rw [hfl, ← hNe] at he9
        subst he9
        rw [← hNe] at hfl
        have HNE := hid hNe
        have hN1 : bs.length + u.size + 17 ≤ N := by omega
        have hN2 : N ≤ 1000000 := by omega
        have HB79 := hid (show Below wr.heap.size wr w9 from by rw [hw9]; exact below_drewN (Below.refl _ _) n9)
        have HCB := hid (fun (j : Nat) (c : UInt8) (hj : (bs ++ imHead u.data.toList ++ outs.flatten)[j]? = some c) => show w9.cell? ⟨gb, j, none⟩ = some (.int .u8 c.toNat) from by rw [hw9]; exact hcb j c hj)
        have HK9 := hid (Lib.OthersKept.below HK.out HB79.out)
        have HB9 := hid (HBL.out.trans (HB79.out.mono (Nat.le_trans hB HBL.out.size)))
        have HI9 := hid (IsBuf.old HBF.out HB79.out)
        clear hcb hw9 HK HBL HBF HB79
        have HNO : Hid (∀ j, bs.length + u.size + 17 ≤ j → j < N → ∃ c : UInt8, (bs ++ imHead u.data.toList ++ outs.flatten)[j]? = some c ∧ c ≠ 10) := hid (fun j h1 h2 => by
          have h3 : j - (bs.length + u.size + 17) < outs.flatten.length := by have := HNE.out; omega
          refine ⟨outs.flatten[j - (bs.length + u.size + 17)], ?_, H10.out _ (List.getElem_mem h3)⟩
          rw [List.getElem?_append_right (by rw [HDL.out]; exact h1), HDL.out]
          exact List.getElem?_eq_getElem h3)
        clear hNe
        go_wp2_with fail
        go_loop [4] (fun t => ∃ j : Nat, bs.length + u.size + 17 ≤ j ∧ j ≤ N ∧ t = .int .i64 j) (fun t => N - (intOf t).toNat)
        case atStart => exact ⟨bs.length + u.size + 17, Nat.le_refl _, by omega, by go_num⟩
        case round =>
          obtain ⟨j, hj1, hj2, rfl⟩ := hrel
          by_cases hjl : j < N
          · obtain ⟨x, hx, hx10⟩ := HNO.out j hj1 hjl
            have hcx := HCB.out j x hx
            have hxe : ((x.toNat : Int) == 10) = false := by
              rw [beq_eq_false_iff_ne]
              intro e
              exact hx10 (UInt8.toNat_inj.1 (by show x.toNat = 10; omega))
            go_wp2_with fail
            go_round
            case rel => exact ⟨j + 1, by omega, by omega, by go_num⟩
            case measure => simp [intOf]; omega
          · have c2 := (H.out.kept HK9.out hbq (by decide)).at_ 2 (v := .string ⟨#[]⟩) rfl
            go_wp2_with fail
            refine (write_str B q _ ⟨#[34]⟩ w9 HI9.out (Nat.le_trans hB HB9.out.size) (by have h4 : (ByteArray.mk #[34]).size = 1 := rfl; rw [hfl, h4]; omega)).mono ?_
            rintro e w10 ⟨rfl, hi10, hb10, hk10⟩
            have HK10 := hid (Lib.OthersKept.trans HK9.out hk10)
            have HB10 := hid (HB9.out.trans hb10)
            have HI10 := hid hi10
            clear hi10 hb10 hk10
            have c2' := (H.out.kept HK10.out hbq (by decide)).at_ 2 (v := .string ⟨#[]⟩) rfl
            go_wp2_with fail
            refine (write_str B q _ ⟨#[32, 47, 62]⟩ w10 HI10.out (Nat.le_trans hB HB10.out.size) (by have h4 : (ByteArray.mk #[32, 47, 62]).size = 3 := rfl; rw [List.length_append, hfl, h4, show ((ByteArray.mk #[34]).data.toList).length = 1 from rfl]; omega)).mono ?_
            rintro e w11 ⟨rfl, hi11, hb11, hk11⟩
            have HK11 := hid (Lib.OthersKept.trans HK10.out hk11)
            have HB11 := hid (HB10.out.trans hb11)
            have HI11 := hid hi11
            clear hi11 hb11 hk11
            go_wp2_with fail
            go_end0
            refine ⟨rfl, ?_, HB11.out, HK11.out⟩
            have := HI11.out
            unfold imOut
            simpa [List.append_assoc] using this
/-- An image, as an item, by the kinds of its parts. -/
theorem img_itemG {B : Nat} {w : World} {b base : Nat} {inner : Sl} {u : ByteArray} {lc : Bool} {ys : List Value} {outs : List (List UInt8)} {iks : List Kind} (h : IsLinkG w b base inner u lc ys) (h1 : B ≤ b) (h2 : B ≤ base) (hn : inner.n ≤ 1000000) (h0 : 0 < inner.n) (hits : IsItems w B ys iks) (hol : outs.length = ys.length) (hk : ∀ (i : Nat) k x, iks[i]? = some k → outs[i]? = some x → k.Ok ∧ KPrintsT k x) (hu : u.size ≤ 10000) (hq : ∀ i, i < u.size → Plainly (bt u i)) (h10 : ∀ c ∈ outs.flatten, c ≠ 10) (hfl : outs.flatten.length ≤ 10000) : ItemS B w (lkiV true b) (imOut u.data.toList outs.flatten) := by
  refine ⟨fun k => B ≤ k ∧ ∃ ty cs, Blk w k ty cs ∧ ty ≠ 95 ∧ ty ≠ 110, fun k hk => hk, fun w' S hm hn' q bs hq' => ?_⟩
  have hrow' : w'.ownsRow base 132 1 inner.v inner.n ys := own_mod h.2 hm (fun k hk => by
    obtain ⟨lb, cs, ha, hb, hlb, _⟩ := row_blk (a := inner.a) (c := inner.c) h.2 h0
    have e : k = lb := by
      rw [Sl.v, ha] at hk
      exact (Option.some.inj hk).symm
    subst e
    exact hn' k ⟨by omega, _, _, hb, by decide, by decide⟩)
  have hblk' := h.1.mod hm (hn' b ⟨h1, _, _, h.1, by decide, by decide⟩)
  have hits' : IsItems w' B ys iks := ⟨hits.1, fun j v k hv hkj => (hits.2 j v k hv hkj).mod hm (fun bb cs hb hB => by
    have hjo : j < outs.length := by rw [hol]; exact (List.getElem?_eq_some_iff.1 hv).1
    obtain ⟨ko, _⟩ := hk j k _ hkj (List.getElem?_eq_getElem hjo)
    exact hn' bb ⟨hB, _, _, hb, ko.ps, ko.text⟩)⟩
  refine ⟨_, _, 268, .pointer (some ⟨b, 0, none⟩), rfl, fun W => by kernel_rfl, Go.Proofs.enters_of Tryz.func268 (by kernel_rfl) rfl, fun B' W hkp hbf hB hlen => ?_⟩
  have l1 := hblk'.lt
  have e1 : u.data.toList.length = u.size := (Lib.size_eq u).symm
  have hrowW : W.ownsRow base 132 1 inner.v inner.n ys := own_kept hrow' hkp (fun e => by have := ownLt hrow' e; omega) (by decide)
  refine imageHTML_gen B' q b base bs u lc inner ys outs W ⟨hblk'.kept hkp (by omega) (by decide), hrowW⟩ hn h0 (by omega) hbf hB hu hol (fun i y x hy hx => ?_) ?_ hq h10
  · have hji : i < iks.length := by rw [← hits.1]; exact (List.getElem?_eq_some_iff.1 hy).1
    obtain ⟨_, k2⟩ := hk i _ x (List.getElem?_eq_getElem hji) hx
    exact (k2 w' B q _ y (hits'.2 i y _ hy (List.getElem?_eq_getElem hji)) hq').kept hkp
  · unfold imOut at hlen
    rw [List.length_append, List.length_append, List.length_append, imHead_len, e1] at hlen
    simp only [List.length_cons, List.length_nil] at hlen
    omega
end Go.Proofs.YtmmijmhdbpldpaaGreatDoor
