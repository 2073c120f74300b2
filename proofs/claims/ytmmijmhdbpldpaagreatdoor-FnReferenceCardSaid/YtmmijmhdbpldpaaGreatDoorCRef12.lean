/- Texts of this proof, joined: What every law's row has in common: the arguments read behind the call as they did; a slice of bytes as a list, Small functions that several laws call: a byte in a text, a text some times, the alphabet without a byte, Words among which something stands: a paragraph each; where the parts of a text stand. -/
import Derived.Test.YtmmijmhdbpldpaaGreatDoorCRef01
import Derived.Test.YtmmijmhdbpldpaaGreatDoorProg
import Derived.Carry
import Derived.ChangeSame
import Derived.Deep.OwnShut
import Derived.Deep.DeepHandedRow
import Derived.Deep.DeepWitnessRowRef
import Derived.Lib.LaidIn
import Derived.ProofKit
import Derived.OpenShut
import Derived.SizedLaws
import Derived.ChangeSlices
import Derived.Test.YtmmijmhdbpldpaaGreatDoorCRef03
import Derived.OwnWalk
import Derived.Lib.Bytealg
import Derived.Laws.IdiomStrings
import Derived.Deep.AppendLies
import Derived.Test.YtmmijmhdbpldpaaGreatDoorCRef08
import Derived.Test.YtmmijmhdbpldpaaGreatDoorCRef11
import Derived.Test.YtmmijmhdbpldpaaGreatDoorCRef09
import Derived.Test.YtmmijmhdbpldpaaGreatDoorCRef07
import Derived.Test.YtmmijmhdbpldpaaGreatDoorCRef04
/- What every law's row has in common: the arguments read behind the call as they did; a slice of bytes as a list. -/












namespace Go.Proofs.YtmmijmhdbpldpaaGreatDoor
open Go.RowKit Go.ChangeShapes Go.WideShapes Go.ChangeAt
/-- A slice whose cells are the bytes l. -/
def BytesAt (w : World) (A : Option Addr) (l : List UInt8) : Prop :=
  ∀ j (h : j < l.length), ∃ ad, A = some ad ∧ ad.block < w.heap.size ∧ w.cell? (ad.add j) = some (.int .u8 (l[j].toNat : Int))
theorem addr_block (a : Addr) (i : Nat) : (a.add i).block = a.block := by unfold Addr.add; split <;> rfl
theorem BytesAt.below {w w' : World} {A : Option Addr} {l : List UInt8} (h : BytesAt w A l) (hb : Below w.heap.size w w') : BytesAt w' A l := fun j hj => by
  obtain ⟨ad, e, hlt, hc⟩ := h j hj
  exact ⟨ad, e, Nat.lt_of_lt_of_le hlt hb.size, (hb.cell (p := ad.add j) (by rw [addr_block]; exact hlt)).trans hc⟩
theorem laidOut : laidOutB Tryz.prog = true := by kernel_rfl
theorem own : ownKnob Tryz.prog.godebug = none := by kernel_rfl
section
variable {H : Type} {enc : TypeId × Value → H}
/-- All arguments at once: below the heap's old size nothing has turned. -/
theorem args_below {P : Program} (hl : laidOutB P = true) {W W' : World} (hb : Below W.heap.size W W') : ∀ {ts : List TypeId} {vs : List Value} {ds : List (DataW H)} {ps : List MemPlace},
    (∀ t ∈ ts, P.readableRec t = true ∧ t < P.types.size) → DataW.TrodAll enc P W 0 (fun _ => true) true ts vs ds ps → (∀ p ∈ ps, p.block < W.heap.size) → ∀ sp : Nat → Bool, (∀ p ∈ ps, sp p.block = true) → DataW.TrodAll enc P W' 0 sp true ts vs ds ps
  | [], [], [], _, _, h, _, sp, _ => by
    obtain ⟨_, _, rfl⟩ := trodAll_nil h
    exact trodAll_mk0
  | t :: ts, vs, ds, ps, ht, h, hlt, sp, hsp => by
    obtain ⟨v, vs', d, ds', p, q, rfl, rfl, rfl, h0, r⟩ := trodAll_cons h
    have h1 := ht t (List.mem_cons_self ..)
    exact trodAll_cons_mk (WideElems.Trod_stays hl h1.1 h1.2 h0 (fun x hx => hb.same (hlt x (List.mem_append_left _ hx))) (fun x hx => hsp x (List.mem_append_left _ hx)))
      (args_below hl hb (fun u hu => ht u (List.mem_cons_of_mem _ hu)) r (fun x hx => hlt x (List.mem_append_right _ hx)) sp (fun x hx => hsp x (List.mem_append_right _ hx)))
/-- A slice of bytes, nil or not, as a list. -/
theorem open_bytes {P : Program} {t e : TypeId} (ht : P.underlying t = some (.slice e)) (he : P.underlying e = some (.int .u8)) (hc : P.cellsOf e = 1) {W : World} {base : Nat} {v : Value} {d : DataW H} {ps : List MemPlace}
    (hval : Value.okWide P W .any base t v) (h : DataW.Trod enc P W 0 (fun _ => true) true t v d ps) : ∃ A l c, v = .slice A l.length c ∧ BytesAt W A l ∧ l.length ≤ maxLen := by
  obtain ⟨a0, len, cap, rfl⟩ := okWide_slice ht hval
  obtain ⟨fuel, hf⟩ := h
  rcases open_ints ht he hc hf with ⟨hcs, _⟩ | ⟨a, len', cap', zs, hcs, _, hl, hm, hz, _, hcell, hwz⟩
  · simp [Value.cells] at hcs
    obtain ⟨rfl, rfl, rfl⟩ := hcs
    exact ⟨none, [], 0, rfl, fun j hj => absurd hj (by simp), Nat.zero_le _⟩
  · simp [Value.cells] at hcs
    obtain ⟨rfl, rfl, rfl⟩ := hcs
    simp only [if_true] at hz
    have hll : ((zs.take len).map fun n => UInt8.ofNat n.toNat).length = len := by simp; omega
    refine ⟨some a, (zs.take len).map fun n => UInt8.ofNat n.toNat, cap, by rw [hll], fun j hj => ?_, by rw [hll]; omega⟩
    have hj' : j < len := by omega
    have hj2 : j < zs.length := by omega
    have h1 := hcell j hj2
    have h2 := hwz (zs[j]) (List.getElem_mem hj2)
    have h3 : 0 ≤ zs[j] ∧ zs[j] ≤ 255 := by simpa [Lit.wf, IntKind.min, IntKind.max, IntKind.bits, IntKind.signed] using h2
    have hb := World.block_lt_of_cell? W _ h1
    rw [addr_block] at hb
    refine ⟨a, rfl, hb, ?_⟩
    rw [h1]
    have e1 : zs.getD j 0 = zs[j] := by simp [List.getD, hj2]
    rw [e1]
    congr 2
    simp only [List.getElem_map, List.getElem_take]
    have h4 : (zs[j]).toNat < 256 := by omega
    rw [UInt8.toNat_ofNat_of_lt' (show (zs[j]).toNat < UInt8.size from h4)]
    omega
/-- The law's post from its walk: true is returned, and below the old heap nothing has turned. -/
theorem post_true {F : Func} {s : ChangeSpec} {W W' : World} {args : Array Value} {ds gs : List (DataW H)} {before : List MemPlace} {p q : List MemPlace}
    (hW : DataW.Whole enc Tryz.prog F.params.toList s.vars false W args.toList ds gs before) (hA : DataW.TrodAll enc Tryz.prog W 0 (fun _ => true) true F.params.toList args.toList ds p) (hq : before = p ++ q)
    (hv : s.vars = []) (hgs : gs = []) (hq0 : q = []) (hr : F.resultTypes = #[4]) (hfn : s.fn H ds = { results := [.lit (.bool true)], args := ds })
    (ht : ∀ t ∈ F.params.toList, Tryz.prog.readableRec t = true ∧ t < Tryz.prog.types.size) (hb : Below W.heap.size W W') : s.post enc Tryz.prog F false true false false W args (.bool true) W' := by
  subst hgs hq0
  rw [List.append_nil] at hq
  subst hq
  have hlt : ∀ x ∈ before, x.block < W.heap.size := fun x hx => hW.lt x hx
  refine ⟨ds, [], before, [], before, [], hW, ?_, ?_, ?_, hb.frame _, fun h => by cases h⟩
  · rw [List.append_nil, hfn, hr]
    exact trodAll_mk1 (shut_bool Tryz.underlying4 _)
  · rw [List.append_nil, hfn]
    exact args_below laidOut hb ht hA hlt _ (fun x hx => by simpa using hlt x hx)
  · rw [List.append_nil, hfn, hv]
    rfl
end
end Go.Proofs.YtmmijmhdbpldpaaGreatDoor
/- Small functions that several laws call: a byte in a text, a text some times, the alphabet without a byte. -/







namespace Go.Proofs.YtmmijmhdbpldpaaGreatDoor
open Go.RowKit
/-- A truth value is returned, which, where it is true, says P; the world is as it was. -/
def BoolF (P : Prop) (w : World) (e : Ending) (w' : World) : Prop := (∃ b, e = .returned (.bool b) ∧ (b = true → P)) ∧ w = w'
theorem BoolF.no {P : Prop} (w : World) : BoolF P w (.returned (.bool false)) w := ⟨⟨_, rfl, fun h => by cases h⟩, rfl⟩
theorem BoolF.yes {P : Prop} (w : World) (h : P) : BoolF P w (.returned (.bool true)) w := ⟨⟨_, rfl, fun _ => h⟩, rfl⟩
theorem indexByte_mem (l : List UInt8) (c : UInt8) : (c ∈ l → 0 ≤ Lib.indexByte l c) ∧ (c ∉ l → Lib.indexByte l c = -1) := by
  induction l with
  | nil => exact ⟨fun h => (by cases h), fun _ => rfl⟩
  | cons a t ih =>
    unfold Lib.indexByte
    by_cases hac : a = c
    · subst hac
      exact ⟨fun _ => by simp, fun h => absurd (List.mem_cons_self ..) h⟩
    · have hb : (a == c) = false := by simpa using hac
      rw [hb]
      simp only [Bool.false_eq_true, if_false]
      by_cases hm : c ∈ t
      · have h1 := ih.1 hm
        refine ⟨fun _ => ?_, fun h => absurd (List.mem_cons_of_mem _ hm) h⟩
        have : (Lib.indexByte t c == -1) = false := by simp; omega
        rw [this]
        simp
        omega
      · have h1 := ih.2 hm
        refine ⟨fun h => ?_, fun _ => by rw [h1]; rfl⟩
        rcases List.mem_cons.1 h with e | e
        · exact absurd e.symm hac
        · exact absurd e hm
set_option maxRecDepth 100000 in
set_option maxHeartbeats 1000000 in
theorem indexByte_any (s : ByteArray) (c : Int) (w : World) :
    Calls Tryz.prog 26 #[.string s, .int .u8 c] w fun e w' => e = .returned (.int .i64 (Lib.indexByte s.data.toList c.toNat.toUInt8)) ∧ w = w' := by
  go_enter Tryz.func26, Tryz.ntmps26
  go_wp2
  rw [run_callFunc_extern Tryz.func49 (by kernel_rfl) (by kernel_rfl) (by kernel_rfl) (e := Extern.BytealgIndexByte.indexByte) (by kernel_rfl), Lib.run_indexByteString]
  simp only [Result.andThen]
  rw [Oper.upon_value]
  go_wp2
  go_ret
  exact ⟨rfl, rfl⟩
/-- A text of at most m bytes of an alphabet. -/
def OnlyP (l al : List UInt8) (m : Nat) : Prop := l.length ≤ m ∧ ∀ c ∈ l, c ∈ al
def OnlyR (l al : List UInt8) (t14 : Value) : Prop := ∃ k : Nat, k ≤ l.length ∧ t14 = .int .i64 k ∧ ∀ c ∈ l.take k, c ∈ al
set_option maxHeartbeats 800000 in
theorem only_any (l al : List UInt8) (m : Nat) (w : World) (_ : m ≤ 1000000) (_ : l.length ≤ 9223372036854775807) :
    Calls Tryz.prog 10 #[.string ⟨l.toArray⟩, .string ⟨al.toArray⟩, .int .i64 m] w (BoolF (OnlyP l al m) w) := by
  have hz : (ByteArray.mk l.toArray).size = l.length := List.size_toArray ..
  have hbt := hid (fun (k : Nat) (h : k < l.length) => (by rw [bt_list, List.getElem?_eq_getElem h] : bt ⟨l.toArray⟩ k = ((l[k]'h).toNat : Int)))
  have HZ := hid hz
  generalize hs : (ByteArray.mk l.toArray) = s at hz hbt HZ ⊢
  have hb := get_bt s
  clear hs
  by_cases hlm : l.length ≤ m
  · have hlm2 : s.size ≤ m := by omega
    have hd : decide (m < s.size) = false := by simp; omega
    clear hz
    go_enter Tryz.func10, Tryz.ntmps10
    go_wp2_with fail
    go_loop [14] (fun t14 => OnlyR l al t14) (fun t14 => l.length - (intOf t14).toNat)
    case atStart => exact ⟨0, Nat.zero_le _, rfl, by simp⟩
    case round =>
      obtain ⟨k, hk, rfl, hin⟩ := hrel
      have HIN := hid hin
      clear hin
      by_cases hlt : k < l.length
      · have hks : k < s.size := by have := HZ.out; omega
        have hck := hid (hbt.out k hlt)
        have hu8 : Hid ((bt s k).toNat.toUInt8 = l[k]'hlt) := hid (by rw [hck.out]; simp)
        have htk := hid (show l.take (k + 1) = l.take k ++ [l[k]'hlt] by rw [List.take_add_one, List.getElem?_eq_getElem hlt]; rfl)
        have hmem := hid (indexByte_mem al (l[k]'hlt))
        generalize l[k]'hlt = c at hck hu8 htk hmem
        go_wp2_with fail
        refine (indexByte_any ⟨al.toArray⟩ (bt s k) w).mono ?_
        rintro e w' ⟨rfl, rfl⟩
        rw [hu8.out]
        by_cases hc : c ∈ al
        · have h0 := hmem.out.1 hc
          have h1 : ¬ Lib.indexByte al c < 0 := by omega
          go_wp2_with fail
          go_round
          case rel => exact ⟨k + 1, by omega, by go_num, by rw [htk.out]; intro x hx; rcases List.mem_append.1 hx with hx | hx; (· exact HIN.out x hx); (simp at hx; subst hx; exact hc)⟩
          case measure => simp [intOf]; omega
        · have h0 := hmem.out.2 hc
          have h1 : Lib.indexByte al c < 0 := by omega
          clear h0
          go_wp2_with fail
          go_ret
          exact BoolF.no _
      · obtain rfl : k = l.length := by omega
        have hks : ¬ l.length < s.size := by have := HZ.out; omega
        go_wp2_with fail
        go_ret
        exact BoolF.yes _ ⟨hlm, by have := HIN.out; rwa [List.take_of_length_le (Nat.le_refl _)] at this⟩
  · have hlm2 : m < s.size := by omega
    clear hz
    go_enter Tryz.func10, Tryz.ntmps10
    go_wp2_with fail
    go_ret
    exact BoolF.no _
/-- A sign, so and so often. -/
def repF (k : Nat) (c : UInt8) : ByteArray := ⟨(List.replicate k c).toArray⟩
theorem repF_succ (k : Nat) (c : UInt8) : repF k c ++ (ByteArray.mk #[c]) = repF (k + 1) c := by
  unfold repF
  rw [show (ByteArray.mk #[c]) = ⟨[c].toArray⟩ from rfl, cat_lists, List.replicate_succ']
theorem repF_size (k : Nat) (c : UInt8) : (repF k c).size = k := by simp [repF, ByteArray.size]
end Go.Proofs.YtmmijmhdbpldpaaGreatDoor
/- Words among which something stands: a paragraph each; where the parts of a text stand. -/


namespace Go.Proofs.YtmmijmhdbpldpaaGreatDoor
open Go.RowKit
structure WordL (l : List UInt8) : Prop where
  pos : 0 < l.length
  len : l.length ≤ 20
  chr : ∀ c ∈ l, c ∈ wcs
theorem word_any (l : List UInt8) (w : World) (hl : l.length ≤ 9223372036854775807) : Calls Tryz.prog 9 #[.string ⟨l.toArray⟩] w (BoolF (WordL l) w) := by
  have HO := hid (only_any l wcs 20 w (by omega) hl)
  cases l with
  | nil =>
    go_enter Tryz.func9, Tryz.ntmps9
    go_wp2_with fail
    go_ret
    exact BoolF.no w
  | cons c r =>
    go_enter Tryz.func9, Tryz.ntmps9
    go_wp2_with fail
    refine HO.out.mono ?_
    rintro e w' ⟨⟨b, rfl, hb⟩, rfl⟩
    cases b with
    | false =>
      go_wp2_with fail
      go_ret
      exact BoolF.no w
    | true =>
      obtain ⟨h1, h2⟩ := hb rfl
      go_wp2_with fail
      go_ret
      exact BoolF.yes w ⟨by simp, h1, h2⟩
theorem wcs_no {c : UInt8} (h : c ∈ wcs) : c ≠ 32 ∧ c ≠ 9 := by
  revert c; decide
theorem WordL.cons {a : List UInt8} (h : WordL a) : ∃ c r, a = c :: r ∧ c ∈ wcs := by
  cases a with
  | nil => have := h.pos; simp at this
  | cons c r => exact ⟨c, r, rfl, h.chr c (List.mem_cons_self ..)⟩
/-- A word, a space and printable text behind are a paragraph's line. -/
theorem wordSp_line (a rest : List UInt8) (ha : WordL a) (hr : ∀ c ∈ rest, 32 ≤ c.toNat) (hl : rest.length ≤ 90000) : ParLine ⟨(a ++ 32 :: rest).toArray⟩ := by
  obtain ⟨c0, r, rfl, hc0⟩ := ha.cons
  have hlen := ha.len
  have hsz : (ByteArray.mk ((c0 :: r) ++ 32 :: rest).toArray).size ≤ 100000 := by rw [sz_mk, List.length_append]; simp only [List.length_cons] at hlen ⊢; omega
  have hb : bt ⟨((c0 :: r) ++ 32 :: rest).toArray⟩ 0 = (c0.toNat : Int) := bt_some rfl
  have htab : ∀ k, bt ⟨((c0 :: r) ++ 32 :: rest).toArray⟩ k ≠ 9 := fun k => bt_mem _ k (fun z => z ≠ 9) (by decide) (fun c hc => by
    rcases List.mem_append.1 hc with h | h
    · have := ha.chr c h
      revert this
      exact (by decide : ∀ c ∈ wcs, (c.toNat : Int) ≠ 9) c
    · rcases List.mem_cons.1 h with rfl | h
      · decide
      · have := hr c h
        omega)
  have first : ∀ (P : Int → Prop), (∀ c ∈ wcs, P (c.toNat : Int)) → P (bt ⟨((c0 :: r) ++ 32 :: rest).toArray⟩ 0) := fun P hc => by rw [hb]; exact hc c0 hc0
  have h32 := first (fun z => z ≠ 32) (by decide)
  refine { size := hsz, pos := by rw [sz_mk]; simp, tab := htab, q := fun k hk => by rw [reach0 h32 hk]; exact first (fun z => z ≠ 62 ∧ z ≠ 35) (by decide), h32 := h32, hr := first (fun z => z ≠ 42 ∧ z ≠ 45 ∧ z ≠ 95) (by decide), lt_ := first (fun z => z ≠ 60) (by decide), fence := first (fun z => z ≠ 126) (by decide), tick := first (fun z => z ≠ 96) (by decide), item := ?_ }
  intro g b nl w hw
  by_cases hd : bt ⟨((c0 :: r) ++ 32 :: rest).toArray⟩ 0 = 48 ∨ bt ⟨((c0 :: r) ++ 32 :: rest).toArray⟩ 0 = 49 ∨ bt ⟨((c0 :: r) ++ 32 :: rest).toArray⟩ 0 = 57
  · refine startListItem_dig g b nl _ w hw hsz htab hd (fun k hk => ?_)
    have hL : ((c0 :: r) ++ 32 :: rest)[(c0 :: r).length]? = some 32 := by
      rw [List.getElem?_append_right (Nat.le_refl _), Nat.sub_self]
      rfl
    rcases Nat.lt_trichotomy k (c0 :: r).length with h | h | h
    · have e : ((c0 :: r) ++ 32 :: rest)[k]? = some (c0 :: r)[k] := by rw [List.getElem?_append_left h]; exact List.getElem?_eq_getElem h
      rw [bt_some e]
      have := ha.chr _ (List.getElem_mem h)
      revert this
      exact (by decide : ∀ c ∈ wcs, (c.toNat : Int) ≠ 46 ∧ (c.toNat : Int) ≠ 41) _
    · rw [h, bt_some hL]
      decide
    · have := hk _ h
      rw [bt_some hL] at this
      exact absurd this.1 (by decide)
  · refine startListItem_no g b 0 0 nl _ w hw (by omega) (Nat.zero_le _) htab (fun k hk => ?_)
    rw [reach0 h32 hk]
    have := first (fun z => z = 48 ∨ z = 49 ∨ z = 57 ∨ NoItem z) (by unfold NoItem; decide)
    rcases this with e | e | e | e
    · exact absurd (.inl e) hd
    · exact absurd (.inr (.inl e)) hd
    · exact absurd (.inr (.inr e)) hd
    · exact e
/-- Where the middle part of a text stands. -/
theorem at_mid {t p q r : List UInt8} (e : t = p ++ q ++ r) (m : Nat) (h1 : p.length ≤ m) (h2 : m < p.length + q.length) : ∃ c ∈ q, bt ⟨t.toArray⟩ m = (c.toNat : Int) := by
  have h3 : m - p.length < q.length := by omega
  refine ⟨q[m - p.length], List.getElem_mem h3, bt_some ?_⟩
  rw [e, List.append_assoc, List.getElem?_append_right h1, List.getElem?_append_left h3]
  exact List.getElem?_eq_getElem h3
theorem ext_mid {t p q r : List UInt8} (e : t = p ++ q ++ r) (a b : Nat) (ha : a = p.length) (hb : b = p.length + q.length) : (ByteArray.mk t.toArray).extract a b = ⟨q.toArray⟩ := by
  subst ha hb
  rw [extract_mk]
  have h1 : t.take (p.length + q.length) = p ++ q := by
    rw [e]
    exact List.take_left' (by rw [List.length_append])
  have h2 : (p ++ q).drop p.length = q := List.drop_left' rfl
  show ByteArray.mk ((t.take (p.length + q.length)).drop p.length).toArray = _
  rw [h1, h2]
/-- A text without signs, of which autoLinkText makes something. -/
theorem inlC_quietA (o : Opt) (t out : List UInt8) (hl : t.length ≤ 100000) (hp : 0 < t.length) (htr : trimR (trimL t) = t) (hq : ∀ (g : Nat), ∀ c ∈ t, parF o g (c.toNat : Int) = none ∧ c ≠ 96) (ha : ∀ B g r, AutP o B g r out [plainK t]) : InlC o t out := by
  intro g r w hps hpar hne hbk
  refine inline_loop o g r ⟨t.toArray⟩ ⟨t.toArray⟩ w (fun _ em tk _ ks => em = 0 ∧ tk = false ∧ ks = []) (fun ks => ks = [plainK t]) hps hpar hne out (bsz hl) (by simp only [htr]) (bsz hl) ?_ (fun ks hF _ => ?_)
  · refine { start := ⟨rfl, rfl, rfl⟩, fin := ?_, quiet := ?_, tick := ?_, call := ?_ }
    · rintro em tk bk ks ⟨rfl, rfl, rfl⟩
      exact piece_all t hp
    · intro i em tk bk ks h _ _ _
      exact h
    · intro i em tk bk ks _ _ hi h96 _
      rw [sz_mk] at hi
      obtain ⟨c, _, h2, h3⟩ := bt_get hi
      rw [h3] at h96
      exact absurd (UInt8.toNat_inj.1 (by rw [show (96 : UInt8).toNat = 96 from rfl]; omega)) (hq 0 c h2).2
    · intro i em tk bk ks f rv _ _ hi hpf
      rw [sz_mk] at hi
      obtain ⟨c, _, h2, h3⟩ := bt_get hi
      rw [h3, (hq g c h2).1] at hpf
      cases hpf
  · subst hF
    have hm : mergeA [] [plainK t] = [plainK t] := by
      rw [mergeA_plain, mergeA, flushK]
      simp
    rw [hm]
    exact ⟨by simp, by simp [plainOf_plain]; omega, ha _ _ _⟩
end Go.Proofs.YtmmijmhdbpldpaaGreatDoor
/- FnBalanced: how its text is read. -/



namespace Go.Proofs.YtmmijmhdbpldpaaGreatDoor
open Go.RowKit
/-- A destination. -/
def dcs : List UInt8 := [97, 98, 47, 46]
structure DestL (d : List UInt8) : Prop where
  pos : 0 < d.length
  len : d.length ≤ 20
  chr : ∀ c ∈ d, c ∈ dcs
@[reducible] def bpL (img : Bool) : List UInt8 := if img then [33] else []
@[reducible] def bp (img : Bool) : Nat := if img then 1 else 0
theorem bpL_len (img : Bool) : (bpL img).length = bp img := by cases img <;> rfl
def balT (img : Bool) (a d : List UInt8) (n : Nat) : List UInt8 := bpL img ++ List.replicate n 91 ++ a ++ List.replicate n 93 ++ [40] ++ d ++ [41]
structure BalL (a d : List UInt8) (n : Nat) : Prop where
  a : WordL a
  d : DestL d
  n1 : 1 ≤ n
  n2 : n ≤ 60
variable {img : Bool} {a d : List UInt8} {n : Nat}
theorem balT_len : (balT img a d n).length = bp img + n + a.length + n + 1 + d.length + 1 := by
  unfold balT
  simp only [List.length_append, List.length_replicate, List.length_cons, List.length_nil, bpL_len]
theorem bp_le (img : Bool) : bp img ≤ 1 := by cases img <;> decide
theorem balT_sz (H : BalL a d n) : (balT img a d n).length ≤ 200 := by
  rw [balT_len]
  have := H.a.len; have := H.d.len; have := H.n2; have := bp_le img
  omega
def bcs : List UInt8 := [33, 91, 93, 40, 41, 97, 98, 122, 48, 49, 57, 47, 46]
theorem balT_mem (H : BalL a d n) {c : UInt8} (hc : c ∈ balT img a d n) : c ∈ bcs := by
  unfold balT at hc
  simp only [List.mem_append, List.mem_replicate, List.mem_cons, List.not_mem_nil, or_false] at hc
  rcases hc with (((((h | ⟨_, rfl⟩) | h) | ⟨_, rfl⟩) | rfl) | h) | rfl
  · cases img
    · have h2 : c ∈ ([] : List UInt8) := h
      cases h2
    · have h2 : c ∈ ([33] : List UInt8) := h
      rw [List.mem_singleton] at h2
      subst h2; decide
  · decide
  · have := H.a.chr c h
    revert this
    exact (by decide : ∀ c ∈ wcs, c ∈ bcs) c
  · decide
  · decide
  · have := H.d.chr c h
    revert this
    exact (by decide : ∀ c ∈ dcs, c ∈ bcs) c
  · decide
theorem bt_rep {t p r : List UInt8} {n : Nat} {x : UInt8} (e : t = p ++ List.replicate n x ++ r) (m : Nat) (h1 : p.length ≤ m) (h2 : m < p.length + n) : bt ⟨t.toArray⟩ m = (x.toNat : Int) := by
  obtain ⟨c, hc, h⟩ := at_mid e m h1 (by rw [List.length_replicate]; exact h2)
  rw [h, List.eq_of_mem_replicate hc]
theorem bt_one {t p r : List UInt8} {x : UInt8} (e : t = p ++ [x] ++ r) (m : Nat) (h : m = p.length) : bt ⟨t.toArray⟩ m = (x.toNat : Int) := by
  obtain ⟨c, hc, h⟩ := at_mid e m (by omega) (by simp only [List.length_cons, List.length_nil]; omega)
  simp only [List.mem_cons, List.not_mem_nil, or_false] at hc
  rw [h, hc]
theorem balT_true (a d : List UInt8) (n : Nat) : balT true a d n = [33] ++ List.replicate n 91 ++ a ++ List.replicate n 93 ++ [40] ++ d ++ [41] := rfl
theorem b33 (a d : List UInt8) (n : Nat) : bt ⟨(balT true a d n).toArray⟩ 0 = 33 := bt_one (p := []) (r := List.replicate n 91 ++ a ++ List.replicate n 93 ++ [40] ++ d ++ [41]) (x := 33) (by simp [balT_true]) 0 rfl
theorem b91 (k : Nat) (hk : k < n) : bt ⟨(balT img a d n).toArray⟩ (bp img + k) = 91 := bt_rep (p := bpL img) (n := n) (x := 91) (r := a ++ List.replicate n 93 ++ [40] ++ d ++ [41]) (by simp [balT]) _ (by rw [bpL_len]; omega) (by rw [bpL_len]; omega)
theorem bwd (i : Nat) (h1 : bp img + n ≤ i) (h2 : i < bp img + n + a.length) : ∃ c ∈ a, bt ⟨(balT img a d n).toArray⟩ i = (c.toNat : Int) :=
  at_mid (p := bpL img ++ List.replicate n 91) (q := a) (r := List.replicate n 93 ++ [40] ++ d ++ [41]) (by simp [balT]) i (by rw [List.length_append, bpL_len, List.length_replicate]; omega) (by rw [List.length_append, bpL_len, List.length_replicate]; omega)
theorem b93 (i : Nat) (h1 : bp img + n + a.length ≤ i) (h2 : i < bp img + n + a.length + n) : bt ⟨(balT img a d n).toArray⟩ i = 93 :=
  bt_rep (p := bpL img ++ List.replicate n 91 ++ a) (n := n) (x := 93) (r := [40] ++ d ++ [41]) (by simp [balT]) _ (by rw [List.length_append, List.length_append, bpL_len, List.length_replicate]; omega) (by rw [List.length_append, List.length_append, bpL_len, List.length_replicate]; omega)
theorem b40 : bt ⟨(balT img a d n).toArray⟩ (bp img + n + a.length + n) = 40 :=
  bt_one (p := bpL img ++ List.replicate n 91 ++ a ++ List.replicate n 93) (r := d ++ [41]) (x := 40) (by simp [balT]) _ (by simp only [List.length_append, bpL_len, List.length_replicate])
theorem bds (i : Nat) (h1 : bp img + n + a.length + n + 1 ≤ i) (h2 : i < bp img + n + a.length + n + 1 + d.length) : ∃ c ∈ d, bt ⟨(balT img a d n).toArray⟩ i = (c.toNat : Int) :=
  at_mid (p := bpL img ++ List.replicate n 91 ++ a ++ List.replicate n 93 ++ [40]) (q := d) (r := [41]) (by simp [balT]) i (by simp only [List.length_append, bpL_len, List.length_replicate, List.length_cons, List.length_nil]; omega) (by simp only [List.length_append, bpL_len, List.length_replicate, List.length_cons, List.length_nil]; omega)
theorem b41 : bt ⟨(balT img a d n).toArray⟩ (bp img + n + a.length + n + 1 + d.length) = 41 :=
  bt_one (p := bpL img ++ List.replicate n 91 ++ a ++ List.replicate n 93 ++ [40] ++ d) (r := []) (x := 41) (by simp [balT]) _ (by simp only [List.length_append, bpL_len, List.length_replicate, List.length_cons, List.length_nil])
@[reducible] def opK (img : Bool) (k : Nat) : Kind := if k = 0 then openK (opL img) (bp img + 1) else openK (opL false) (bp img + k + 1)
def kops (img : Bool) (m : Nat) : List Kind := (List.range m).map (opK img)
theorem kops_succ (img : Bool) (m : Nat) : kops img (m + 1) = kops img m ++ [opK img m] := by
  unfold kops
  rw [List.range_succ, List.map_append]
  rfl
theorem kops_len (img : Bool) (m : Nat) : (kops img m).length = m := by unfold kops; simp
theorem kops_get (img : Bool) {m k : Nat} (h : k < m) : (kops img m)[k]? = some (opK img k) := by
  unfold kops
  rw [List.getElem?_map, List.getElem?_range h]
  rfl
@[reducible] def balA (img : Bool) (m : Nat) : Nat := if m = 0 then 0 else bp img + m
def balJ (img : Bool) (a : List UInt8) (n : Nat) : JL := fun i em _ _ ks ops =>
  (∃ m, m < n ∧ i = em ∧ i = balA img m ∧ ks = kops img m ∧ ops = List.range m) ∨
  (em = bp img + n ∧ ks = kops img n ∧ bp img + n ≤ i ∧ i < bp img + n + a.length + n ∧ ops = List.range (n - (i - (bp img + n + a.length))))
def balF (img : Bool) (a d : List UInt8) (n : Nat) : Bool → ByteArray → List Kind → Prop := fun im u iks => im = img ∧ u = ⟨d.toArray⟩ ∧ iks = (List.range (n - 1)).map (fun k => plusK [91] (bp img + k + 2)) ++ [plainK (a ++ List.replicate (n - 1) 93)]
theorem balJ_next (H : BalL a d n) (m : Nat) (hm : m < n) (tk : Bool) (bk : List Value) : balJ img a n (bp img + m + 1) (bp img + m + 1) tk bk (kops img (m + 1)) (List.range (m + 1)) := by
  have := H.a.pos
  rcases Nat.lt_or_ge (m + 1) n with h | h
  · exact .inl ⟨m + 1, h, rfl, by unfold balA; rw [if_neg (by omega)]; omega, rfl, rfl⟩
  · obtain rfl : n = m + 1 := by omega
    exact .inr ⟨by omega, rfl, by omega, by omega, by rw [show bp img + m + 1 - (bp img + (m + 1) + a.length) = 0 from by omega]; rfl⟩
theorem openK_inj {i1 i2 : Bool} {j1 j2 : Nat} (h : openK (opL i1) j1 = openK (opL i2) j2) : i1 = i2 ∧ j1 = j2 := by
  simp only [Kind.mk.injEq, List.cons.injEq, Value.int.injEq, true_and, and_true] at h
  refine ⟨?_, by omega⟩
  have h1 := h.1
  cases i1 <;> cases i2
  · rfl
  · exact absurd h1 (by unfold lineV; intro e; simp only [Value.string.injEq] at e; have := congrArg ByteArray.size e; revert this; decide)
  · exact absurd h1 (by unfold lineV; intro e; simp only [Value.string.injEq] at e; have := congrArg ByteArray.size e; revert this; decide)
  · rfl
theorem parF_91 (g : Nat) : parF plainO g 91 = some (69, #[]) := rfl
theorem parF_33 (g : Nat) : parF plainO g 33 = some (70, #[]) := rfl
theorem parF_wcs (g : Nat) : ∀ c ∈ wcs, parF plainO g (c.toNat : Int) = none := by
  intro c hc
  have : ∀ c ∈ wcs, (parF plainO g (c.toNat : Int)).isNone = true := by unfold wcs; simp [parF, plainO]
  exact Option.isNone_iff_eq_none.1 (this c hc)
theorem parF_93 (g : Nat) : parF plainO g 93 = none := by simp [parF]
theorem bal_piece (_ : BalL a d n) (c : Nat) (hc : c ≤ n) : (ByteArray.mk (balT img a d n).toArray).extract (bp img + n) (bp img + n + a.length + c) = ⟨(a ++ List.replicate c 93).toArray⟩ := by
  refine ext_mid (p := bpL img ++ List.replicate n 91) (q := a ++ List.replicate c 93) (r := List.replicate (n - c) 93 ++ [40] ++ d ++ [41]) ?_ _ _ (by simp only [List.length_append, bpL_len, List.length_replicate]) (by simp only [List.length_append, bpL_len, List.length_replicate]; omega)
  have e : List.replicate n (93 : UInt8) = List.replicate c 93 ++ List.replicate (n - c) 93 := by rw [List.replicate_append_replicate, show c + (n - c) = n from by omega]
  unfold balT
  rw [e]
  simp only [List.append_assoc]
theorem bal_label (c : Nat) (hc : c ≤ n) : (ByteArray.mk (balT img a d n).toArray).extract (bp img + (n - c)) (bp img + n + a.length + c) = ⟨(List.replicate c 91 ++ a ++ List.replicate c 93).toArray⟩ := by
  refine ext_mid (p := bpL img ++ List.replicate (n - c) 91) (q := List.replicate c 91 ++ a ++ List.replicate c 93) (r := List.replicate (n - c) 93 ++ [40] ++ d ++ [41]) ?_ _ _ (by simp only [List.length_append, bpL_len, List.length_replicate]) (by simp only [List.length_append, bpL_len, List.length_replicate]; omega)
  have e : List.replicate n (93 : UInt8) = List.replicate c 93 ++ List.replicate (n - c) 93 := by rw [List.replicate_append_replicate, show c + (n - c) = n from by omega]
  have e2 : List.replicate n (91 : UInt8) = List.replicate (n - c) 91 ++ List.replicate c 91 := by rw [List.replicate_append_replicate, show n - c + c = n from by omega]
  unfold balT
  rw [e, e2]
  simp only [List.append_assoc]
theorem bal_dest : (ByteArray.mk (balT img a d n).toArray).extract (bp img + n + a.length + n + 1) (bp img + n + a.length + n + 1 + d.length) = ⟨d.toArray⟩ :=
  ext_mid (p := bpL img ++ List.replicate n 91 ++ a ++ List.replicate n 93 ++ [40]) (q := d) (r := [41]) (by simp [balT]) _ _ (by simp only [List.length_append, bpL_len, List.length_replicate, List.length_cons, List.length_nil]) (by simp only [List.length_append, bpL_len, List.length_replicate, List.length_cons, List.length_nil])
theorem bal_open0 : (ByteArray.mk (balT true a d n).toArray).extract 0 2 = ⟨[33, 91].toArray⟩ ∨ n = 0 := by
  cases n with
  | zero => exact .inr rfl
  | succ n =>
    left
    exact ext_mid (p := []) (q := [33, 91]) (r := List.replicate n 91 ++ a ++ List.replicate (n + 1) 93 ++ [40] ++ d ++ [41]) (by simp [balT_true, List.replicate_succ]) _ _ rfl rfl
theorem bal_open (k : Nat) (hk : k < n) : (ByteArray.mk (balT img a d n).toArray).extract (bp img + k) (bp img + k + 1) = ⟨[91].toArray⟩ := by
  refine ext_mid (p := bpL img ++ List.replicate k 91) (q := [91]) (r := List.replicate (n - k - 1) 91 ++ a ++ List.replicate n 93 ++ [40] ++ d ++ [41]) ?_ _ _ (by simp only [List.length_append, bpL_len, List.length_replicate]) (by simp only [List.length_append, bpL_len, List.length_replicate, List.length_cons, List.length_nil])
  have e : List.replicate n (91 : UInt8) = List.replicate k 91 ++ ([91] ++ List.replicate (n - k - 1) 91) := by
    rw [show ([91] : List UInt8) = List.replicate 1 91 from rfl, List.replicate_append_replicate, List.replicate_append_replicate, show k + (1 + (n - k - 1)) = n from by omega]
  unfold balT
  rw [e]
  simp
theorem pieceK_none (s : ByteArray) (i : Nat) : pieceK s i i = [] := if_neg (Nat.lt_irrefl i)
theorem bal_fin (H : BalL a d n) : (kops img n ++ pieceK ⟨(balT img a d n).toArray⟩ (bp img + n) (bp img + n + a.length + (n - 1))).tail.map emK = (List.range (n - 1)).map (fun k => plusK [91] (bp img + k + 2)) ++ [plainK (a ++ List.replicate (n - 1) 93)] := by
  have hn := H.n1
  have ha := H.a.pos
  obtain ⟨m, rfl⟩ : ∃ m, n = m + 1 := ⟨n - 1, by omega⟩
  have hp : pieceK ⟨(balT img a d (m + 1)).toArray⟩ (bp img + (m + 1)) (bp img + (m + 1) + a.length + (m + 1 - 1)) = [plainK (a ++ List.replicate m 93)] := by
    unfold pieceK
    rw [if_pos (by omega)]
    have := bal_piece (img := img) (d := d) H m (by omega)
    rw [extract_mk] at this
    have := congrArg (fun b : ByteArray => b.data.toList) this
    rw [show m + 1 - 1 = m from rfl]
    simp only at this
    rw [this]
  rw [hp, show m + 1 - 1 = m from rfl]
  unfold kops
  rw [List.range_succ_eq_map, List.map_cons, List.cons_append, List.tail_cons, List.map_append, List.map_map, List.map_map]
  congr 1
theorem dcs_dc : ∀ c ∈ dcs, DC (c.toNat : Int) := by unfold dcs DC; decide
theorem wcs_ld : ∀ c ∈ wcs, LDw (c.toNat : Int) := by unfold wcs LDw; decide
theorem balH (img : Bool) (H : BalL a d n) (g : Nat) (r : PSr) (w : World) (hlk : r.links = none) : InlHL plainO w.heap.size g r ⟨(balT img a d n).toArray⟩ w (balJ img a n) (balF img a d n) := by
  have hlen := balT_len (img := img) (a := a) (d := d) (n := n)
  have hsz := balT_sz (img := img) H
  have hn1 := H.n1
  have hap := H.a.pos
  have hdp := H.d.pos
  have hbp := bp_le img
  have hA : ∀ m, m < n → (m = 0 ∧ img = true ∧ bt ⟨(balT img a d n).toArray⟩ (balA img m) = 33) ∨ (balA img m = bp img + m ∧ bt ⟨(balT img a d n).toArray⟩ (balA img m) = 91) := by
    intro m hm
    unfold balA
    by_cases h0 : m = 0
    · subst h0
      cases img with
      | true => exact .inl ⟨rfl, rfl, b33 a d n⟩
      | false => exact .inr ⟨rfl, b91 (img := false) 0 hm⟩
    · rw [if_neg h0]
      exact .inr ⟨rfl, b91 m hm⟩
  refine { start := .inl ⟨0, hn1, rfl, rfl, rfl, rfl⟩, more := ?_, quiet := ?_, tick := ?_, call := ?_, close := ?_ }
  · rintro em tk bk ks ops (⟨m, hm, _, h, _⟩ | ⟨_, _, _, h, _⟩)
    · rw [sz_mk] at h
      unfold balA at h
      split at h <;> omega
    · rw [sz_mk] at h
      omega
  · rintro i em tk bk ks ops (⟨m, hm, h0, h, _, _⟩ | ⟨rfl, rfl, h1, h2, rfl⟩) _ hi hf hq
    · exfalso
      rw [h] at hf
      rcases hA m hm with ⟨_, _, e⟩ | ⟨_, e⟩
      · rw [e, parF_33] at hf; cases hf
      · rw [e, parF_91] at hf; cases hf
    · rcases Nat.lt_or_ge i (bp img + n + a.length) with h3 | h3
      · refine .inr ⟨rfl, rfl, by omega, by omega, ?_⟩
        rw [show i - (bp img + n + a.length) = 0 from by omega, show i + 1 - (bp img + n + a.length) = 0 from by omega]
      · exfalso
        rcases hq with hq | hq
        · exact hq (b93 i h3 h2)
        · have := congrArg List.length hq
          simp at this
          omega
  · intro i em tk bk ks ops _ _
    exact bt_mem _ i (fun z => z ≠ 96) (by decide) (fun c hc => by
      have := balT_mem H hc
      revert this
      exact (by decide : ∀ c ∈ bcs, (c.toNat : Int) ≠ 96) c)
  · rintro i em tk bk ks ops f rv (⟨m, hm, rfl, h, rfl, rfl⟩ | ⟨rfl, rfl, h1, h2, rfl⟩) hei hi hf W hin hmod
    · have hWs : w.heap.size ≤ W.heap.size := hmod.size
      rcases hA m hm with ⟨rfl, rfl, e⟩ | ⟨h4, e⟩
      · rw [← h] at e
        rw [e, parF_33] at hf
        simp only [Option.some.injEq, Prod.mk.injEq] at hf
        obtain ⟨rfl, rfl⟩ := hf
        obtain rfl : i = 0 := h
        have hb1 : bt ⟨(balT true a d n).toArray⟩ (0 + 1) = 91 := b91 (img := true) 0 (by omega)
        refine (imageOpen_any _ ⟨(balT true a d n).toArray⟩ 0 W (by rw [sz_mk]; omega) (by rw [sz_mk]; omega) hb1).mono ?_
        rintro e' w' ⟨b, rfl, hb, hblk, hbel⟩
        have he : (ByteArray.mk (balT true a d n).toArray).extract 0 (0 + 2) = ⟨[33, 91].toArray⟩ := by
          rcases bal_open0 (a := a) (d := d) (n := n) with h5 | h5
          · exact h5
          · omega
        rw [he] at hblk
        refine ⟨bk, hin.below hbel, Mod.below hbel (fun k _ h2 => .inr (Nat.le_trans hWs h2)), KeepT.below hbel, .inr ⟨_, openK (opL true) 2, 0, 2, rfl, ⟨b, rfl, hblk, Nat.le_trans hWs hb⟩, (openK_apart _ _), Nat.le_refl _, Nat.zero_le _, by omega, by omega, by rw [sz_mk]; omega, .inr ⟨true, 2, rfl, ?_⟩⟩⟩
        have hj := balJ_next (img := true) H 0 hm tk bk
        rw [kops_succ] at hj
        rw [pieceK_none, List.append_nil]
        exact hj
      · have h5 : i = bp img + m := by rw [h, h4]
        rw [← h] at e
        rw [e, parF_91] at hf
        simp only [Option.some.injEq, Prod.mk.injEq] at hf
        obtain ⟨rfl, rfl⟩ := hf
        refine (linkOpen_any _ ⟨(balT img a d n).toArray⟩ i W hi (by rw [sz_mk]; omega)).mono ?_
        rintro e' w' ⟨b, rfl, hb, hblk, hbel⟩
        rw [h5, bal_open m hm] at hblk
        rw [sz_mk] at hi
        have hm0 : m = 0 → img = false := fun e0 => by
          subst e0
          cases img with
          | false => rfl
          | true => simp [balA, bp] at h4
        have hop : openK (opL false) (bp img + m + 1) = opK img m := by
          unfold opK
          by_cases e0 : m = 0
          · rw [if_pos e0, hm0 e0, e0]
          · rw [if_neg e0]
        refine ⟨bk, hin.below hbel, Mod.below hbel (fun k _ h2 => .inr (Nat.le_trans hWs h2)), KeepT.below hbel, .inr ⟨_, openK (opL false) (bp img + m + 1), i, i + 1, rfl, ⟨b, rfl, hblk, Nat.le_trans hWs hb⟩, (openK_apart _ _), Nat.le_refl _, by rw [sz_mk]; omega, by omega, by omega, by rw [sz_mk]; omega, .inr ⟨false, bp img + m + 1, rfl, ?_⟩⟩⟩
        have hj := balJ_next (img := img) H m hm tk bk
        rw [kops_succ] at hj
        rw [pieceK_none, List.append_nil, hop, kops_len, h5, ← List.range_succ]
        exact hj
    · exfalso
      rcases Nat.lt_or_ge i (bp img + n + a.length) with h3 | h3
      · obtain ⟨x, hx, e⟩ := bwd (d := d) i h1 h3
        rw [e, parF_wcs g x (H.a.chr x hx)] at hf
        cases hf
      · rw [b93 i h3 h2, parF_93] at hf
        cases hf
  · rintro i em tk bk ks ops oi (⟨m, hm, h0, h, _, _⟩ | ⟨rfl, rfl, h1, h2, hops⟩) hei hi h93 img' j ob W hki hin hmod hob
    · exfalso
      rw [h] at h93
      rcases hA m hm with ⟨_, _, e⟩ | ⟨_, e⟩
      · rw [e] at h93; omega
      · rw [e] at h93; omega
    · have hWs : w.heap.size ≤ W.heap.size := hmod.size
      have h3 : bp img + n + a.length ≤ i := by
        rcases Nat.lt_or_ge i (bp img + n + a.length) with h3 | h3
        · exfalso
          obtain ⟨x, hx, e⟩ := bwd (d := d) i h1 h3
          have := H.a.chr x hx
          rw [e] at h93
          revert this h93
          exact (by decide : ∀ x ∈ wcs, (x.toNat : Int) = 93 → False) x |> fun f h p => f p h
        · exact h3
      obtain ⟨k, hk⟩ : ∃ k, i = bp img + n + a.length + k := ⟨i - (bp img + n + a.length), by omega⟩
      have hkn : k < n := by omega
      rw [show n - (i - (bp img + n + a.length)) = (n - k - 1) + 1 from by omega, List.range_succ] at hops
      obtain ⟨rfl, ho⟩ := List.append_inj' hops rfl
      simp only [List.cons.injEq, and_true] at ho
      subst ho
      rw [kops_get img (by omega)] at hki
      simp only [Option.some.injEq] at hki
      have hj : j = bp img + (n - k) := by
        unfold opK at hki
        split at hki
        · have := (openK_inj hki).2; omega
        · have := (openK_inj hki).2; omega
      rcases Nat.lt_or_ge (k + 1) n with hk1 | hk1
      · obtain ⟨l, vs, hps1, _⟩ := id hin
        refine (linkClose_no g ob _ ⟨(balT img a d n).toArray⟩ _ i j W hps1 hlk hob (by rw [sz_mk]; omega) (by omega) (by rw [sz_mk]; omega) (b93 (i + 1) (by omega) (by omega)) (fun W2 => ?_)).mono ?_
        · rw [hj, hk, bal_label k (by omega)]
          cases k with
          | zero =>
            rw [List.replicate_zero, List.replicate_zero, List.nil_append, List.append_nil]
            refine (normLabel_word ⟨a.toArray⟩ (a.length - 1) W2 (by rw [sz_mk]; omega) (by rw [sz_mk]; have := H.a.len; omega) (fun m hm => ?_) (fun h => ?_) (fun h => ?_)).mono ?_
            · rw [sz_mk] at hm
              rw [bt_some (List.getElem?_eq_getElem hm)]
              exact wcs_ld _ (H.a.chr _ (List.getElem_mem hm))
            · exact absurd (H.a.chr _ (by simpa using h)) (by decide)
            · exact absurd (H.a.chr _ (by simpa using h)) (by decide)
            · rintro e w' ⟨rfl, hb⟩
              exact ⟨_, rfl, hb⟩
          | succ k =>
            refine (normLabel_br _ W2 (by rw [sz_mk]; have := H.a.len; simp; omega) (by simp [List.replicate_succ])).mono ?_
            rintro e w' ⟨rfl, rfl⟩
            exact ⟨_, rfl, Below.refl _ _⟩
        · rintro e w' ⟨rfl, hbel⟩
          refine ⟨hin.below hbel, Mod.below hbel (fun k _ h2 => .inr (Nat.le_trans hWs h2)), KeepT.below hbel, .inl ⟨rfl, .inr ⟨rfl, rfl, by omega, by omega, ?_⟩⟩⟩
          rw [show n - (i + 1 - (bp img + n + a.length)) = n - k - 1 from by omega]
      · obtain rfl : k = n - 1 := by omega
        have hi1 : i + 1 = bp img + n + a.length + n := by omega
        have hi2 : i + 2 = bp img + n + a.length + n + 1 := by omega
        have himg : img' = img := by
          unfold opK at hki
          rw [if_pos (by omega)] at hki
          exact (openK_inj hki).1.symm
        subst himg
        have hx : (ByteArray.mk (balT img' a d n).toArray).extract (i + 2) (i + 2 + d.length) = ⟨d.toArray⟩ := by rw [hi2]; exact bal_dest
        have hdno : ∀ x, x ∉ dcs → x ∉ d := fun x hx hd => hx (H.d.chr x hd)
        refine (linkClose_yes _ _ ⟨(balT img' a d n).toArray⟩ i (i + 2 + d.length) W (by rw [sz_mk]; omega) (by rw [hi1]; exact b40) (by omega) (by rw [sz_mk]; omega) (fun m hm1 hm2 => ?_) (by rw [hi2]; exact b41) (by rw [hx]; exact hdno _ (by decide)) (by rw [hx]; exact hdno _ (by decide))).mono ?_
        · obtain ⟨x, hxd, e⟩ := bds (img := img') (a := a) (d := d) (n := n) m (by omega) (by omega)
          rw [e]
          exact dcs_dc x (H.d.chr x hxd)
        · rintro e w' ⟨b, rfl, hb, hblk, hbel⟩
          rw [hx] at hblk
          refine ⟨hin.below hbel, Mod.below hbel (fun k _ h2 => .inr (Nat.le_trans hWs h2)), KeepT.below hbel, .inr ⟨b, ⟨d.toArray⟩, ?_, hblk, Nat.le_trans hWs hb, by omega, ⟨?_, ?_⟩, fun W2 => ?_, rfl, rfl, ?_⟩⟩
          · rw [sz_mk, hlen, show i + 2 + d.length + 1 = bp img' + n + a.length + n + 1 + d.length + 1 from by omega]
          · unfold pieceK
            rw [if_pos (by omega), List.length_append, kops_len]
            simp only [List.length_cons, List.length_nil]
            omega
          · have h7 := slot_piece ⟨(balT img' a d n).toArray⟩ (bp img' + n) i
            have h8 := H.n2
            rw [List.length_append, kops_len]
            omega
          · refine (linkCorner_no _ W2 (by rw [sz_mk]; have := H.d.len; omega) (fun m _ => bt_mem _ m (fun z => z ≠ 37) (by decide) (fun x hx => by
              have := H.d.chr x hx
              revert this
              exact (by decide : ∀ x ∈ dcs, (x.toNat : Int) ≠ 37) x))).mono ?_
            rintro e w2 ⟨rfl, rfl⟩
            exact ⟨false, rfl, Below.refl _ _⟩
          · rw [hk]
            exact bal_fin H
end Go.Proofs.YtmmijmhdbpldpaaGreatDoor
/- A line becomes a paragraph's first one, or is blank behind a paragraph: what has been closed stays. -/


namespace Go.Proofs.YtmmijmhdbpldpaaGreatDoor
open Go.RowKit
/-- The machine's own blocks: the parser's state, the open blocks, lines. -/
def Own3 (w : World) (k : Nat) : Prop := ∃ ty cs, Blk w k ty cs ∧ (ty = 95 ∨ ty = 121 ∨ ty = 104)
/-- All other objects stay. -/
def KeepD (w w' : World) : Prop := w.heap.size ≤ w'.heap.size ∧ ∀ k, k < w.heap.size → ¬ Own3 w k → w'.heap[k]? = w.heap[k]?
theorem KeepD.refl (w : World) : KeepD w w := ⟨Nat.le_refl _, fun _ _ _ => rfl⟩
theorem KeepD.trans {a b c : World} (h : KeepD a b) (h' : KeepD b c) : KeepD a c := by
  refine ⟨Nat.le_trans h.1 h'.1, fun k hk hn => ?_⟩
  have e1 := h.2 k hk hn
  refine (h'.2 k (Nat.lt_of_lt_of_le hk h.1) (fun ⟨ty, cs, hb, ht⟩ => hn ⟨ty, cs, ?_, ht⟩)).trans e1
  unfold Blk at hb ⊢
  rw [← e1]; exact hb
theorem KeepD.of {w w' : World} {S : Nat → Prop} (hm : Mod S w w') (hS : ∀ k, k < w.heap.size → S k → Own3 w k) : KeepD w w' :=
  ⟨hm.size, fun k hk hn => hm.block k hk (fun h => hn (hS k hk h))⟩
theorem KeepD.lnKept {base : Nat} {w w' : World} (h : LnKept base w w') : KeepD w w' := KeepD.of h (fun _ _ ⟨_, cs, hb⟩ => ⟨_, cs, hb, .inr (.inr rfl)⟩)
theorem KeepD.blk {w w' : World} {k : Nat} {ty : TypeId} {cs : Array Value} (h : KeepD w w') (hb : Blk w k ty cs) (h1 : ty ≠ 95) (h2 : ty ≠ 121) (h3 : ty ≠ 104) : Blk w' k ty cs := by
  have e := h.2 k hb.lt (fun ⟨ty', cs', hb', ht⟩ => by
    unfold Blk at hb hb'
    rw [hb] at hb'
    simp only [Option.some.injEq, Obj.cells.injEq] at hb'
    obtain ⟨_, rfl, _⟩ := hb'
    rcases ht with h | h | h
    · exact h1 h
    · exact h2 h
    · exact h3 h)
  unfold Blk at hb ⊢
  rw [e]; exact hb
theorem KeepD.own {w w' : World} {base : Nat} {e : TypeId} {size n : Nat} {v : Value} {xs : List Value} (hk : KeepD w w') (h : w.ownsRow base e size v n xs) (h1 : e ≠ 95) (h2 : e ≠ 121) (h3 : e ≠ 104) : w'.ownsRow base e size v n xs := by
  refine ⟨h.1, ?_⟩
  rcases h.2 with h0 | ⟨g', cap, cur, rfl, hb, hh, h4⟩
  · exact .inl h0
  · exact .inr ⟨g', cap, cur, rfl, hb, hk.blk hh h1 h2 h3, h4⟩
/-- Any object of another form (a map). -/
theorem KeepD.obj {w w' : World} {k : Nat} {o : Obj} (h : KeepD w w') (hb : w.heap[k]? = some o) (ho : ∀ cs ty fz, o ≠ .cells cs ty fz) : w'.heap[k]? = some o := by
  rw [h.2 k (Array.getElem?_eq_some_iff.1 hb).1 (fun ⟨ty, cs, hb', _⟩ => by
    unfold Blk at hb'
    rw [hb] at hb'
    exact ho _ _ _ (Option.some.inj hb'))]
  exact hb
theorem own3_ps {w : World} {g : Nat} {r : PSr} (h : IsPS w g r) : Own3 w g := ⟨_, _, h, .inl rfl⟩
theorem own3_stack {w : World} {B : Nat} {s : Sl} {es : List Ent} (h : IsStack w B s es) {k : Nat} (hk : some k = s.v.ownBlock) : Own3 w k := by
  rcases h.2.2 with ⟨h1, _⟩ | ⟨gb, cap, cur, h1, _, hh, _⟩
  · rw [h1] at hk; cases hk
  · rw [h1] at hk
    obtain rfl : k = gb := Option.some.inj hk
    exact ⟨_, _, hh, .inr (.inl rfl)⟩
/-- As ParQ1, and what has been closed stays. -/
def ParQ2 (B g : Nat) (r : PSr) (e0 : Ent) (txt : List UInt8) (w w' : World) : Prop := ParQ1 B g r e0 txt w w' ∧ KeepD w w'
set_option maxRecDepth 20000 in
theorem addLine_par1 (B g : Nat) (r : PSr) (a : Option Addr) (i0 : Sl) (tbl : Bool) (nl : Int) (s : ByteArray) (w : World) (hgB : g < B) (hB : B ≤ w.heap.size) (hps : IsPS w g r) (hst : IsStack w B r.stack ([] ++ [⟨98, .pointer a, i0, 0, 0⟩]))
    (hs : ParLine s) (hpg : r.parser < g) (htb : w.cell? ⟨r.parser, 5, none⟩ = some (.bool tbl)) :
    Calls Tryz.prog 54 #[.pointer (some ⟨g, 0, none⟩), lnV 0 0 s nl] w fun e w' => e = .returned (.tuple #[]) ∧ ParQ2 B g r ⟨98, .pointer a, i0, 0, 0⟩ s.data.toList w w' := by
  obtain ⟨sb, cap, cs0, hsh, hsbb, _, _, hBs⟩ := hst.shape (by simp)
  have hsh2 : r.stack = ⟨some ⟨sb, 0, none⟩, 1, cap⟩ := by rw [hsh]; rfl
  have hgs : g ≤ w.heap.size := Nat.le_of_lt hps.lt
  have hsz := hs.size
  generalize he0 : (⟨98, .pointer a, i0, 0, 0⟩ : Ent) = e0 at hst ⊢
  have hb1 : e0.bt = 98 := by rw [← he0]
  have hb2 : e0.bv = .pointer a := by rw [← he0]
  refine addLine_gen g sb cap 1 r.lineno
    (fun k l w' => k = 0 ∧ l = ⟨0, s, nl⟩ ∧ ParE B g r e0 tbl w w' ∧ KeepD w w')
    (fun d l w' => d = 0 ∧ l = ⟨0, s, nl⟩ ∧ ParE B g r e0 tbl w w' ∧ KeepD w w')
    (fun _ _ _ _ _ => False)
    (ParQ2 B g r e0 s.data.toList w) ⟨0, s, nl⟩ w r hps ⟨Nat.zero_le _, by show s.size ≤ 1000000; omega⟩ rfl ?_ ?_
  · have keepE : ∀ d l w1 w2, (d = 0 ∧ l = Ln.mk 0 s nl ∧ ParE B g r e0 tbl w w1 ∧ KeepD w w1) → LnKept w.heap.size w1 w2 → (d = 0 ∧ l = Ln.mk 0 s nl ∧ ParE B g r e0 tbl w w2 ∧ KeepD w w2) := fun d l w1 w2 ⟨h1, h2, h3, h4⟩ hk => ⟨h1, h2, h3.lnKept hk hgs hpg, h4.trans (KeepD.lnKept hk)⟩
    have atE : ∀ d l w', (d = 0 ∧ l = Ln.mk 0 s nl ∧ ParE B g r e0 tbl w w' ∧ KeepD w w') → AtLine g sb cap 1 r.lineno d w' ∧ d < 1 := by
      rintro d l w' ⟨rfl, rfl, ⟨h1, h2, _⟩, _⟩
      exact ⟨atLine_of h1 rfl rfl hsh2 h2 rfl (by omega) (by omega), by omega⟩
    refine { pos := by omega, atJ := atE, atP := ?_, atE := atE, keepJ := keepE, keepP := ?_, keepE := keepE, keepQ := ?_, ext := ?_, yes := ?_, no := ?_, last := ?_, blank := ?_, start := ?_ }
    · intro k l l' ok w' h; exact h.elim
    · intro k l l' ok w1 w2 h _; exact h
    · rintro w1 w2 ⟨⟨st, pb, v, h1, h2, h3, h4, h5⟩, h6⟩ hk
      exact ⟨⟨st, pb, v, h1.lnKept hk, h2.lnKept hk, h3.lnKept hk, h4, h5.lnKept hk hgs⟩, h6.trans (KeepD.lnKept hk)⟩
    · rintro k l w' ⟨rfl, _⟩ hkn
      omega
    · intro k l l' w' h; exact h.elim
    · intro k l l' w' h; exact h.elim
    · rintro l w' ⟨_, h2, h3⟩
      exact ⟨rfl, h2, h3⟩
    · rintro d l w' ⟨rfl, rfl, _⟩ hbl
      rw [hs.nblank] at hbl; cases hbl
    · intro d l hbl hok
      have fin : ∀ {w1 w2 : World} {e : Ending}, (e = .returned (.tuple #[lnV 0 0 s nl, .bool false]) ∧ Below w1.heap.size w1 w2) → e = .returned (.tuple #[(Ln.mk 0 s nl).v, .bool false]) ∧ LnKept w.heap.size w1 w2 ∧ ∀ lb cs, w.heap.size ≤ lb → Blk w1 lb 104 cs → Blk w2 lb 104 cs := fun ⟨h1, h2⟩ => ⟨h1, LnKept.below h2, fun lb cs _ hb => Blk.mod (S := fun _ => False) hb (Mod.below' h2) (fun x => x)⟩
      refine ⟨8, Nat.le_refl _, ?_, ?_, ?_⟩
      · rintro i f w' hi hf ⟨rfl, rfl, ⟨hp, hst', htb', hm⟩, _⟩
        have h8 : i = 0 ∨ i = 1 ∨ i = 2 ∨ i = 3 ∨ i = 4 ∨ i = 5 ∨ i = 6 ∨ i = 7 := by omega
        rcases h8 with rfl | rfl | rfl | rfl | rfl | rfl | rfl | rfl
        · cases hf
          exact (newQuote_no2 g 0 0 nl s w' (by omega) (Nat.zero_le _) hs.tab (fun k hk => (hs.q k hk).1)).mono (fun _ _ => fin)
        · cases hf
          exact (newATX_no2 g 0 0 nl s w' (by omega) (Nat.zero_le _) hs.tab (fun k hk => (hs.q k hk).2)).mono (fun _ _ => fin)
        · cases hf
          exact (newSetext_no B g 0 _ [] e0 a 0 nl s w' hp hst' (by simp) (by rw [hsh2]; rfl) hb1 hb2).mono (fun _ _ => fin)
        · cases hf
          exact (newHR_no g 0 0 nl s w' (by omega) (Nat.zero_le _) hs.tab (fun k hk => by rw [reach0 hs.h32 hk]; exact hs.hr)).mono (fun _ _ => fin)
        · cases hf
          exact (newListItem_via B g _ e0 a nl s w' hp hst' rfl hb1 hb2 (by omega) (fun b w2 h => hs.item g b nl w2 h)).mono (fun _ _ => fin)
        · cases hf
          exact (newHTML_no g 0 0 nl s w' (by omega) (Nat.zero_le _) hs.tab (fun k hk => by rw [reach0 hs.h32 hk]; exact hs.lt_)).mono (fun _ _ => fin)
        · cases hf
          exact (newFence_no g 0 0 nl s w' (by omega) (Nat.zero_le _) hs.tab (fun k hk => by rw [reach0 hs.h32 hk]; exact ⟨hs.tick, hs.fence⟩)).mono (fun _ _ => fin)
        · cases hf
          exact (newPre_no B g _ e0 a nl s w' hp hst' hb1 hb2 (by omega) hs.pos hs.tab hs.h32).mono (fun _ _ => fin)
      · rintro f w' hf
        cases hf
      · rintro _ w' ⟨rfl, rfl, ⟨hp, hst', htb', hm⟩, hkd⟩
        refine (newPara_yes B g _ e0 a 0 nl tbl s w' (Nat.le_trans hB hm.size) hp hst' rfl hb1 hb2 (by omega) (Nat.zero_le _) htb').mono ?_
        rintro e w2 ⟨rfl, st, pb, v, q1, q2, q3, q4, _, q6⟩
        rw [List.drop_zero, hs.trim] at q3
        refine ⟨⟨_, rfl⟩, ⟨st, pb, v, q1, q2, q3, q4, hm.trans q6 (fun k hk e => ?_)⟩, hkd.trans (KeepD.of q6 (fun k hk e => ?_))⟩
        · rcases e with e | e
          · omega
          · have := ownBase hst'.2 e; omega
        · rcases e with e | e
          · subst e; exact own3_ps hp
          · exact own3_stack hst' e
  · refine ⟨rfl, rfl, ⟨hps.set5 0, hst.far (p := ⟨g, 5, none⟩) (own_ne hst.2 hps (by decide)) _, ?_, (Mod.refl _ _).setCell (p := ⟨g, 5, none⟩) (.inl (Nat.le_refl _)) _⟩, KeepD.of ((Mod.refl (fun k => k = g) w).setCell (p := ⟨g, 5, none⟩) (.inl rfl) _) (fun k _ e => by subst e; exact own3_ps hps)⟩
    rw [((Mod.refl (fun k => k = g) w).setCell (p := ⟨g, 5, none⟩) (.inl rfl) (.int .i64 0)).cell (p := ⟨r.parser, 5, none⟩) (by show r.parser < _; have := hps.lt; omega) (by show ¬ r.parser = g; omega)]
    exact htb
end Go.Proofs.YtmmijmhdbpldpaaGreatDoor
/- A blank line behind a paragraph: it is closed. -/


namespace Go.Proofs.YtmmijmhdbpldpaaGreatDoor
open Go.RowKit
theorem para_extend (p : Value) (g : Nat) (l : Ln) (w : World) :
    Calls Tryz.prog 281 #[p, .pointer (some ⟨g, 0, none⟩), l.v] w fun e w' => e = .returned (.tuple #[l.v, .bool false]) ∧ Below w.heap.size w w' := by
  unfold Ln.v lnV
  go_enter Tryz.func281, Tryz.ntmps281
  go_wp2_with fail
  have hbx : Blk ((w.alloc (.cells l.C 104)).alloc (.cells l.C 104)) (w.heap.size + 1) 104 l.C := Blk.new' (by simp)
  have k0 := hbx.at_ 0 rfl
  have k1 := hbx.at_ 1 rfl
  have k2 := hbx.at_ 2 rfl
  have k3 := hbx.at_ 3 rfl
  have k4 := hbx.at_ 4 rfl
  unfold Ln.C at k0 k1 k2 k3 k4
  refine bodyPost_ret (by simp [results, Tryz.results281, go_sem, k0, k1, k2, k3, k4]; try rfl) rfl ?_
  exact ⟨rfl, ((Below.refl _ _).alloc (Nat.le_refl _) _).alloc (by simp) _⟩
def BlE (B g : Nat) (r : PSr) (e0 : Ent) (qb : Nat) (sl el : Int) (w w' : World) : Prop :=
  IsPS w' g { r with lineDepth := 0 } ∧ IsStack w' B r.stack ([] ++ [e0] ++ [parE qb sl el]) ∧ KeepD w w' ∧ Mod (fun k => g ≤ k) w w'
theorem BlE.lnKept {base B g qb : Nat} {r : PSr} {e0 : Ent} {sl el : Int} {w w1 w2 : World} (h : BlE B g r e0 qb sl el w w1) (hk : LnKept base w1 w2) (hg : g ≤ base) : BlE B g r e0 qb sl el w w2 :=
  ⟨h.1.lnKept hk, h.2.1.lnKept hk, h.2.2.1.trans (KeepD.lnKept hk), h.2.2.2.lnKept hk hg⟩
set_option maxRecDepth 20000 in
theorem addLine_blankP (B g qb : Nat) (r : PSr) (e0 : Ent) (sl el nl : Int) (w : World) (F : World → Prop) (hgB : g < B) (hps : IsPS w g r) (hst : IsStack w B r.stack ([] ++ [e0] ++ [parE qb sl el]))
    (keepF : ∀ w1 w2, F w1 → LnKept w.heap.size w1 w2 → F w2) (htr : ∀ w1, BlE B g r e0 qb sl el w w1 → Calls Tryz.prog 55 #[.pointer (some ⟨g, 0, none⟩), .int .i64 1] w1 fun e w' => e = .returned (.tuple #[]) ∧ F w') :
    Calls Tryz.prog 54 #[.pointer (some ⟨g, 0, none⟩), lnV 0 0 ⟨#[]⟩ nl] w fun e w' => e = .returned (.tuple #[]) ∧ F w' := by
  obtain ⟨sb, cap, cs0, hsh, hsbb, _, _, hBs⟩ := hst.shape (by simp)
  have hsh2 : r.stack = ⟨some ⟨sb, 0, none⟩, 2, cap⟩ := by rw [hsh]; rfl
  have hgs : g ≤ w.heap.size := Nat.le_of_lt hps.lt
  have hbl0 : (Ln.mk 0 ⟨#[]⟩ nl).blank = true := rfl
  refine addLine_gen g sb cap 2 r.lineno
    (fun k l w' => k = 0 ∧ l = ⟨0, ⟨#[]⟩, nl⟩ ∧ BlE B g r e0 qb sl el w w')
    (fun d l w' => d = 0 ∧ l = ⟨0, ⟨#[]⟩, nl⟩ ∧ BlE B g r e0 qb sl el w w')
    (fun k l l' ok w' => k = 0 ∧ l = ⟨0, ⟨#[]⟩, nl⟩ ∧ l' = ⟨0, ⟨#[]⟩, nl⟩ ∧ ok = false ∧ BlE B g r e0 qb sl el w w')
    F ⟨0, ⟨#[]⟩, nl⟩ w r hps ⟨Nat.le_refl _, by show 0 ≤ 1000000; omega⟩ rfl ?_ ?_
  · refine { pos := by omega, atJ := ?_, atP := ?_, atE := ?_, keepJ := ?_, keepP := ?_, keepE := ?_, keepQ := keepF, ext := ?_, yes := ?_, no := ?_, last := ?_, blank := ?_, start := ?_ }
    · rintro k l w' ⟨rfl, rfl, h1, h2, _⟩
      exact ⟨atLine_of h1 rfl rfl hsh2 h2 rfl (by omega) (by omega), by omega⟩
    · rintro k l l' ok w' ⟨rfl, rfl, rfl, rfl, h1, h2, _⟩
      exact atLine_of h1 rfl rfl hsh2 h2 rfl (by omega) (by omega)
    · rintro d l w' ⟨rfl, rfl, h1, h2, _⟩
      exact ⟨atLine_of h1 rfl rfl hsh2 h2 rfl (by omega) (by omega), by omega⟩
    · rintro k l w1 w2 ⟨h1, h2, h3⟩ hk
      exact ⟨h1, h2, h3.lnKept hk hgs⟩
    · rintro k l l' ok w1 w2 ⟨h1, h2, h3, h4, h5⟩ hk
      exact ⟨h1, h2, h3, h4, h5.lnKept hk hgs⟩
    · rintro d l w1 w2 ⟨h1, h2, h3⟩ hk
      exact ⟨h1, h2, h3.lnKept hk hgs⟩
    · rintro k l w' ⟨rfl, rfl, h1, h2, h3⟩ hkn hok
      obtain ⟨sb', cap', hv', _, _, _, _, _, c0, _⟩ := h2.top
      rw [hsh2] at hv'
      simp only [Sl.mk.injEq, Option.some.injEq, Addr.mk.injEq] at hv'
      obtain ⟨⟨rfl, _⟩, _⟩ := hv'
      refine ⟨_, _, _, _, c0, para_ext_via qb, Go.Proofs.enters_of Tryz.func281 (by kernel_rfl) rfl, ⟨0, ⟨#[]⟩, nl⟩, false, hok, ?_⟩
      refine (para_extend (.pointer (some ⟨qb, 0, none⟩)) g ⟨0, ⟨#[]⟩, nl⟩ w').mono ?_
      rintro e w3 ⟨rfl, hb⟩
      have hk0 : LnKept w.heap.size w' w3 := LnKept.below hb
      exact ⟨rfl, ⟨rfl, rfl, rfl, rfl, BlE.lnKept ⟨h1, h2, h3⟩ hk0 hgs⟩, hb.size, fun lb cs _ h => Blk.mod h (Mod.below' (S := fun _ => False) hb) (fun x => x)⟩
    · rintro k l l' w' ⟨_, _, _, h, _⟩
      cases h
    · rintro k l l' w' ⟨rfl, rfl, rfl, _, h⟩ _
      refine ⟨rfl, rfl, ?_⟩
      have hu : updB (Ln.mk 0 ⟨#[]⟩ nl) (Ln.mk 0 ⟨#[]⟩ nl) false = false := by unfold updB; rw [hbl0]; rfl
      rw [hu]
      exact h
    · rintro l w' ⟨h, _⟩
      cases h
    · rintro d l w' ⟨rfl, rfl, h⟩ _
      exact htr w' h
    · intro d l hbl hok
      refine ⟨8, Nat.le_refl _, ?_, ?_, ?_⟩
      · rintro i f w' _ _ ⟨_, rfl, _⟩
        rw [hbl0] at hbl; cases hbl
      · rintro f w' hf
        cases hf
      · rintro _ w' ⟨_, rfl, _⟩
        rw [hbl0] at hbl; cases hbl
  · exact ⟨rfl, rfl, hps.set5 0, hst.far (p := ⟨g, 5, none⟩) (own_ne hst.2 hps (by decide)) _, KeepD.of ((Mod.refl (fun k => k = g) w).setCell (p := ⟨g, 5, none⟩) (.inl rfl) _) (fun k _ e => by subst e; exact own3_ps hps), (Mod.refl _ _).setCell (p := ⟨g, 5, none⟩) (.inl (Nat.le_refl _)) _⟩
end Go.Proofs.YtmmijmhdbpldpaaGreatDoor
/- Spaces, tabs and line feeds at a text's ends are cut off. (Printed by wip/gen_nl.py out of the elder text on spaces and tabs.) -/

namespace Go.Proofs.YtmmijmhdbpldpaaGreatDoor
open Go.RowKit
def isSN (c : UInt8) : Bool := c == 32 || c == 9 || c == 10
def trimNL (l : List UInt8) : List UInt8 := l.dropWhile isSN
theorem isSN_of {c : UInt8} (h : (c.toNat : Int) = 32 ∨ (c.toNat : Int) = 9 ∨ (c.toNat : Int) = 10) : isSN c = true := by
  have : c = 32 ∨ c = 9 ∨ c = 10 := by
    rcases h with h | h | h
    · exact .inl (UInt8.toNat_inj.1 (by simpa using (by omega : c.toNat = 32)))
    · exact .inr (.inl (UInt8.toNat_inj.1 (by simpa using (by omega : c.toNat = 9))))
    · exact .inr (.inr (UInt8.toNat_inj.1 (by simpa using (by omega : c.toNat = 10))))
  rcases this with rfl | rfl | rfl <;> decide
theorem isSN_not {c : UInt8} (h1 : ¬ (c.toNat : Int) = 32) (h2 : ¬ (c.toNat : Int) = 9) (h3 : ¬ (c.toNat : Int) = 10) : isSN c = false := by
  have a1 : c ≠ 32 := fun h => by subst h; exact h1 rfl
  have a2 : c ≠ 9 := fun h => by subst h; exact h2 rfl
  have a3 : c ≠ 10 := fun h => by subst h; exact h3 rfl
  simp [isSN, a1, a2, a3]
def trimNR (l : List UInt8) : List UInt8 := (l.reverse.dropWhile isSN).reverse
theorem trimNR_of (m : List UInt8) (j : Nat) (hj : j ≤ m.length) (h1 : ∀ k c, j ≤ k → m[k]? = some c → isSN c = true) (h2 : ∀ i c, j = i + 1 → m[i]? = some c → isSN c = false) : trimNR m = m.take j := by
  unfold trimNR
  rw [drop_of_while isSN m.reverse (m.length - j), List.drop_reverse, List.reverse_reverse, show m.length - (m.length - j) = j from by omega]
  · intro k c hk hc
    rw [List.getElem?_reverse (by omega)] at hc
    exact h1 _ c (by omega) hc
  · intro c hc
    cases j with
    | zero => rw [List.getElem?_eq_none (by rw [List.length_reverse]; omega)] at hc; cases hc
    | succ i =>
      rw [List.getElem?_reverse (by omega), show m.length - 1 - (m.length - (i + 1)) = i from by omega] at hc
      exact h2 i c rfl hc
def TSN1 (s : ByteArray) (t3 : Value) : Prop := ∃ i : Nat, i ≤ s.size ∧ t3 = .int .i64 i ∧ ∀ k c, k < i → s.data.toList[k]? = some c → isSN c = true
def TSN2 (s : ByteArray) (t4 : Value) : Prop := ∃ j : Nat, j ≤ s.size ∧ t4 = .int .i64 j ∧ ∀ k c, j ≤ k → s.data.toList[k]? = some c → isSN c = true
set_option maxHeartbeats 1600000 in
theorem trimSTN_any (s : ByteArray) (w : World) (hs : s.size ≤ 100000) :
    Calls Tryz.prog 167 #[.string s] w fun e w' => e = .returned (.string ⟨(trimNR (trimNL s.data.toList)).toArray⟩) ∧ w = w' := by
  have hb := get_bt
  have HL := hid (Lib.size_eq s)
  have second : ∀ i, i ≤ s.size → (∀ k c, k < i → s.data.toList[k]? = some c → isSN c = true) → (∀ c, s.data.toList[i]? = some c → isSN c = false) → s.extract i s.size = ⟨(trimNL s.data.toList).toArray⟩ ∧ (trimNL s.data.toList).length = s.size - i := by
    intro i hi h1 h2
    have h3 : trimNL s.data.toList = s.data.toList.drop i := drop_of_while isSN _ i h1 h2
    exact ⟨by rw [extract_end, h3], by rw [h3, List.length_drop, HL.out]⟩
  have SEC := hid second
  clear second
  go_enter Tryz.func167, Tryz.ntmps167
  go_wp2
  go_loop [3] (fun t3 => TSN1 s t3) (fun t3 => s.size - (intOf t3).toNat)
  case atStart => exact ⟨0, Nat.zero_le _, rfl, fun k c h => absurd h (by omega)⟩
  case round =>
    obtain ⟨i, hi, rfl, hsp⟩ := hrel
    have HSP := hid hsp
    clear hsp
    have step : ∀ c, s.data.toList[i]? = some c → isSN c = true → ∀ k d, k < i + 1 → s.data.toList[k]? = some d → isSN d = true := by
      intro c hc hst j d hj hd
      rcases Nat.lt_or_ge j i with h1 | h1
      · exact HSP.out j d h1 hd
      · obtain rfl : j = i := by omega
        rw [hc] at hd; cases hd; exact hst
    have ST := hid step
    clear step
    by_cases hgo : i < s.size ∧ (bt s i = 32 ∨ bt s i = 9 ∨ bt s i = 10)
    · obtain ⟨hlt, hgo⟩ := hgo
      obtain ⟨c, hc, hbt⟩ := bt_at s hlt
      have HC := hid hc
      have HB := hid hbt
      clear hc hbt
      rcases hgo with h1 | h1 | h1
      · go_wp2
        go_round
        case rel => exact ⟨i + 1, by omega, by go_num, ST.out c HC.out (isSN_of (.inl (HB.out ▸ h1)))⟩
        case measure => simp [intOf]; omega
      · go_wp2
        go_round
        case rel => exact ⟨i + 1, by omega, by go_num, ST.out c HC.out (isSN_of (.inr (.inl (HB.out ▸ h1))))⟩
        case measure => simp [intOf]; omega
      · go_wp2
        go_round
        case rel => exact ⟨i + 1, by omega, by go_num, ST.out c HC.out (isSN_of (.inr (.inr (HB.out ▸ h1))))⟩
        case measure => simp [intOf]; omega
    · have hend : ∀ c, s.data.toList[i]? = some c → isSN c = false := by
        intro c hc
        have hlt : i < s.size := by
          rw [HL.out]
          exact (List.getElem?_eq_some_iff.1 hc).1
        obtain ⟨d, hd, hbt⟩ := bt_at s hlt
        rw [hc] at hd; cases hd
        exact isSN_not (fun e => hgo ⟨hlt, .inl (hbt.trans e)⟩) (fun e => hgo ⟨hlt, .inr (.inl (hbt.trans e))⟩) (fun e => hgo ⟨hlt, .inr (.inr (hbt.trans e))⟩)
      obtain ⟨hex, hml⟩ := SEC.out i hi HSP.out hend
      have HEX := hid hex
      have HML := hid hml
      have hz : (s.extract i s.size).size = s.size - i := by simp
      have HZ := hid hz
      have HGO := hid hgo
      clear hgo hend hex hml hz
      have b1 : i < s.size → (bt s i == 32) = false := fun h => by simpa using fun e => HGO.out ⟨h, .inl e⟩
      have b2 : i < s.size → (bt s i == 9) = false := fun h => by simpa using fun e => HGO.out ⟨h, .inr (.inl e)⟩
      have b3 : i < s.size → (bt s i == 10) = false := fun h => by simpa using fun e => HGO.out ⟨h, .inr (.inr e)⟩
      have B1 := hid b1
      have B2 := hid b2
      have B3 := hid b3
      clear b1 b2 b3
      by_cases hlt : i < s.size
      · have b1 := B1.out hlt
        have b2 := B2.out hlt
        have b3 := B3.out hlt
        go_wp2
        clear b1 b2 b3
        generalize s.extract i s.size = s2 at HEX HZ ⊢
        have hz2 := HZ.out
        have HL2 := hid (Lib.size_eq s2)
        have hz3 : s2.size ≤ 100000 := by omega
        clear hlt
        go_loop [4] (fun t4 => TSN2 s2 t4) (fun t4 => (intOf t4).toNat)
        case atStart => exact ⟨s2.size, Nat.le_refl _, by rw [HZ.out], fun k c h1 h2 => by
          rw [List.getElem?_eq_none (by rw [← HL2.out]; omega)] at h2
          cases h2⟩
        case round =>
          obtain ⟨j, hj, rfl, hst⟩ := hrel
          have HST := hid hst
          clear hst
          have hres : (∀ q c, j = q + 1 → s2.data.toList[q]? = some c → isSN c = false) → s2.extract 0 j = ⟨(trimNR (trimNL s.data.toList)).toArray⟩ := by
            intro h
            have e1 : s2.data.toList = trimNL s.data.toList := by rw [HEX.out]
            rw [← e1, trimNR_of s2.data.toList j (by rw [← HL2.out]; exact hj) HST.out h, Lib.extract_eq]
            simp
          have HRES := hid hres
          clear hres hz2
          cases j with
          | zero =>
            have hr := hid (HRES.out (fun q c h => by omega))
            go_wp2
            go_ret
            exact ⟨ret_str (by rw [← hr.out]; simp), rfl⟩
          | succ m =>
            have hm : m < s2.size := by omega
            obtain ⟨c, hc, hbt⟩ := bt_at s2 hm
            have HC := hid hc
            have HB := hid hbt
            clear hc hbt
            have stp : isSN c = true → ∀ k d, m ≤ k → s2.data.toList[k]? = some d → isSN d = true := fun hs k d hk hd => by
              rcases Nat.lt_or_ge m k with h1 | h1
              · exact HST.out k d h1 hd
              · obtain rfl : k = m := by omega
                rw [HC.out] at hd; cases hd; exact hs
            have STP := hid stp
            clear stp
            by_cases h32 : bt s2 m = 32
            · go_wp2
              go_round
              case rel => exact ⟨m, by omega, by go_num, STP.out (isSN_of (.inl (HB.out ▸ h32)))⟩
              case measure => simp [intOf]
            by_cases h9 : bt s2 m = 9
            · go_wp2
              go_round
              case rel => exact ⟨m, by omega, by go_num, STP.out (isSN_of (.inr (.inl (HB.out ▸ h9))))⟩
              case measure => simp [intOf]
            by_cases h10 : bt s2 m = 10
            · go_wp2
              go_round
              case rel => exact ⟨m, by omega, by go_num, STP.out (isSN_of (.inr (.inr (HB.out ▸ h10))))⟩
              case measure => simp [intOf]
            have b1 : (bt s2 m == 32) = false := by simpa using h32
            have b2 : (bt s2 m == 9) = false := by simpa using h9
            have b3 : (bt s2 m == 10) = false := by simpa using h10
            have hr := hid (HRES.out (fun q d h hd => by
              obtain rfl : q = m := by omega
              rw [HC.out] at hd; cases hd
              exact isSN_not (fun e => h32 (HB.out.trans e)) (fun e => h9 (HB.out.trans e)) (fun e => h10 (HB.out.trans e))))
            go_wp2
            go_ret
            exact ⟨ret_str hr.out, rfl⟩
      · go_wp2
        generalize s.extract i s.size = s2 at HEX HZ ⊢
        have hz2 := HZ.out
        have HL2 := hid (Lib.size_eq s2)
        have hz3 : s2.size ≤ 100000 := by omega
        clear hlt
        go_loop [4] (fun t4 => TSN2 s2 t4) (fun t4 => (intOf t4).toNat)
        case atStart => exact ⟨s2.size, Nat.le_refl _, by rw [HZ.out], fun k c h1 h2 => by
          rw [List.getElem?_eq_none (by rw [← HL2.out]; omega)] at h2
          cases h2⟩
        case round =>
          obtain ⟨j, hj, rfl, hst⟩ := hrel
          have HST := hid hst
          clear hst
          have hres : (∀ q c, j = q + 1 → s2.data.toList[q]? = some c → isSN c = false) → s2.extract 0 j = ⟨(trimNR (trimNL s.data.toList)).toArray⟩ := by
            intro h
            have e1 : s2.data.toList = trimNL s.data.toList := by rw [HEX.out]
            rw [← e1, trimNR_of s2.data.toList j (by rw [← HL2.out]; exact hj) HST.out h, Lib.extract_eq]
            simp
          have HRES := hid hres
          clear hres hz2
          cases j with
          | zero =>
            have hr := hid (HRES.out (fun q c h => by omega))
            go_wp2
            go_ret
            exact ⟨ret_str (by rw [← hr.out]; simp), rfl⟩
          | succ m =>
            have hm : m < s2.size := by omega
            obtain ⟨c, hc, hbt⟩ := bt_at s2 hm
            have HC := hid hc
            have HB := hid hbt
            clear hc hbt
            have stp : isSN c = true → ∀ k d, m ≤ k → s2.data.toList[k]? = some d → isSN d = true := fun hs k d hk hd => by
              rcases Nat.lt_or_ge m k with h1 | h1
              · exact HST.out k d h1 hd
              · obtain rfl : k = m := by omega
                rw [HC.out] at hd; cases hd; exact hs
            have STP := hid stp
            clear stp
            by_cases h32 : bt s2 m = 32
            · go_wp2
              go_round
              case rel => exact ⟨m, by omega, by go_num, STP.out (isSN_of (.inl (HB.out ▸ h32)))⟩
              case measure => simp [intOf]
            by_cases h9 : bt s2 m = 9
            · go_wp2
              go_round
              case rel => exact ⟨m, by omega, by go_num, STP.out (isSN_of (.inr (.inl (HB.out ▸ h9))))⟩
              case measure => simp [intOf]
            by_cases h10 : bt s2 m = 10
            · go_wp2
              go_round
              case rel => exact ⟨m, by omega, by go_num, STP.out (isSN_of (.inr (.inr (HB.out ▸ h10))))⟩
              case measure => simp [intOf]
            have b1 : (bt s2 m == 32) = false := by simpa using h32
            have b2 : (bt s2 m == 9) = false := by simpa using h9
            have b3 : (bt s2 m == 10) = false := by simpa using h10
            have hr := hid (HRES.out (fun q d h hd => by
              obtain rfl : q = m := by omega
              rw [HC.out] at hd; cases hd
              exact isSN_not (fun e => h32 (HB.out.trans e)) (fun e => h9 (HB.out.trans e)) (fun e => h10 (HB.out.trans e))))
            go_wp2
            go_ret
            exact ⟨ret_str hr.out, rfl⟩
end Go.Proofs.YtmmijmhdbpldpaaGreatDoor
