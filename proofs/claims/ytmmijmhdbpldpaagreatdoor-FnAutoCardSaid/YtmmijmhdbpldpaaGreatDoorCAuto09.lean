/- Texts of this proof, joined: What every law's row has in common: the arguments read behind the call as they did; a slice of bytes as a list, Small functions that several laws call: a byte in a text, a text some times, the alphabet without a byte, Words among which something stands: a paragraph each; where the parts of a text stand. -/
import Derived.Test.YtmmijmhdbpldpaaGreatDoorCAuto01
import Derived.Test.YtmmijmhdbpldpaaGreatDoorProg
import Derived.Carry
import Derived.ChangeSame
import Derived.Deep.OwnShut
import Derived.Deep.DeepHandedRow
import Derived.Deep.DeepWitnessRowRef
import Derived.Lib.LaidIn
import Derived.ProofKit
import Derived.OpenShut
import Derived.SizedLaws
import Derived.ChangeSlices
import Derived.Test.YtmmijmhdbpldpaaGreatDoorCAuto03
import Derived.OwnWalk
import Derived.Lib.Bytealg
import Derived.Laws.IdiomStrings
import Derived.Deep.AppendLies
import Derived.Test.YtmmijmhdbpldpaaGreatDoorCAuto08
import Derived.Test.YtmmijmhdbpldpaaGreatDoorCAuto04
import Derived.Great.BuildSlice
import Derived.Test.YtmmijmhdbpldpaaGreatDoorCAuto05
import Derived.BigRegion
/- What every law's row has in common: the arguments read behind the call as they did; a slice of bytes as a list. -/












namespace Go.Proofs.YtmmijmhdbpldpaaGreatDoor
open Go.RowKit Go.ChangeShapes Go.WideShapes Go.ChangeAt
/-- A slice whose cells are the bytes l. -/
def BytesAt (w : World) (A : Option Addr) (l : List UInt8) : Prop :=
  ∀ j (h : j < l.length), ∃ ad, A = some ad ∧ ad.block < w.heap.size ∧ w.cell? (ad.add j) = some (.int .u8 (l[j].toNat : Int))
theorem addr_block (a : Addr) (i : Nat) : (a.add i).block = a.block := by unfold Addr.add; split <;> rfl
theorem BytesAt.below {w w' : World} {A : Option Addr} {l : List UInt8} (h : BytesAt w A l) (hb : Below w.heap.size w w') : BytesAt w' A l := fun j hj => by
  obtain ⟨ad, e, hlt, hc⟩ := h j hj
  exact ⟨ad, e, Nat.lt_of_lt_of_le hlt hb.size, (hb.cell (p := ad.add j) (by rw [addr_block]; exact hlt)).trans hc⟩
theorem laidOut : laidOutB Tryz.prog = true := by kernel_rfl
theorem own : ownKnob Tryz.prog.godebug = none := by kernel_rfl
section
variable {H : Type} {enc : TypeId × Value → H}
/-- All arguments at once: below the heap's old size nothing has turned. -/
theorem args_below {P : Program} (hl : laidOutB P = true) {W W' : World} (hb : Below W.heap.size W W') : ∀ {ts : List TypeId} {vs : List Value} {ds : List (DataW H)} {ps : List MemPlace},
    (∀ t ∈ ts, P.readableRec t = true ∧ t < P.types.size) → DataW.TrodAll enc P W 0 (fun _ => true) true ts vs ds ps → (∀ p ∈ ps, p.block < W.heap.size) → ∀ sp : Nat → Bool, (∀ p ∈ ps, sp p.block = true) → DataW.TrodAll enc P W' 0 sp true ts vs ds ps
  | [], [], [], _, _, h, _, sp, _ => by
    obtain ⟨_, _, rfl⟩ := trodAll_nil h
    exact trodAll_mk0
  | t :: ts, vs, ds, ps, ht, h, hlt, sp, hsp => by
    obtain ⟨v, vs', d, ds', p, q, rfl, rfl, rfl, h0, r⟩ := trodAll_cons h
    have h1 := ht t (List.mem_cons_self ..)
    exact trodAll_cons_mk (WideElems.Trod_stays hl h1.1 h1.2 h0 (fun x hx => hb.same (hlt x (List.mem_append_left _ hx))) (fun x hx => hsp x (List.mem_append_left _ hx)))
      (args_below hl hb (fun u hu => ht u (List.mem_cons_of_mem _ hu)) r (fun x hx => hlt x (List.mem_append_right _ hx)) sp (fun x hx => hsp x (List.mem_append_right _ hx)))
/-- A slice of bytes, nil or not, as a list. -/
theorem open_bytes {P : Program} {t e : TypeId} (ht : P.underlying t = some (.slice e)) (he : P.underlying e = some (.int .u8)) (hc : P.cellsOf e = 1) {W : World} {base : Nat} {v : Value} {d : DataW H} {ps : List MemPlace}
    (hval : Value.okWide P W .any base t v) (h : DataW.Trod enc P W 0 (fun _ => true) true t v d ps) : ∃ A l c, v = .slice A l.length c ∧ BytesAt W A l ∧ l.length ≤ maxLen := by
  obtain ⟨a0, len, cap, rfl⟩ := okWide_slice ht hval
  obtain ⟨fuel, hf⟩ := h
  rcases open_ints ht he hc hf with ⟨hcs, _⟩ | ⟨a, len', cap', zs, hcs, _, hl, hm, hz, _, hcell, hwz⟩
  · simp [Value.cells] at hcs
    obtain ⟨rfl, rfl, rfl⟩ := hcs
    exact ⟨none, [], 0, rfl, fun j hj => absurd hj (by simp), Nat.zero_le _⟩
  · simp [Value.cells] at hcs
    obtain ⟨rfl, rfl, rfl⟩ := hcs
    simp only [if_true] at hz
    have hll : ((zs.take len).map fun n => UInt8.ofNat n.toNat).length = len := by simp; omega
    refine ⟨some a, (zs.take len).map fun n => UInt8.ofNat n.toNat, cap, by rw [hll], fun j hj => ?_, by rw [hll]; omega⟩
    have hj' : j < len := by omega
    have hj2 : j < zs.length := by omega
    have h1 := hcell j hj2
    have h2 := hwz (zs[j]) (List.getElem_mem hj2)
    have h3 : 0 ≤ zs[j] ∧ zs[j] ≤ 255 := by simpa [Lit.wf, IntKind.min, IntKind.max, IntKind.bits, IntKind.signed] using h2
    have hb := World.block_lt_of_cell? W _ h1
    rw [addr_block] at hb
    refine ⟨a, rfl, hb, ?_⟩
    rw [h1]
    have e1 : zs.getD j 0 = zs[j] := by simp [List.getD, hj2]
    rw [e1]
    congr 2
    simp only [List.getElem_map, List.getElem_take]
    have h4 : (zs[j]).toNat < 256 := by omega
    rw [UInt8.toNat_ofNat_of_lt' (show (zs[j]).toNat < UInt8.size from h4)]
    omega
/-- The law's post from its walk: true is returned, and below the old heap nothing has turned. -/
theorem post_true {F : Func} {s : ChangeSpec} {W W' : World} {args : Array Value} {ds gs : List (DataW H)} {before : List MemPlace} {p q : List MemPlace}
    (hW : DataW.Whole enc Tryz.prog F.params.toList s.vars false W args.toList ds gs before) (hA : DataW.TrodAll enc Tryz.prog W 0 (fun _ => true) true F.params.toList args.toList ds p) (hq : before = p ++ q)
    (hv : s.vars = []) (hgs : gs = []) (hq0 : q = []) (hr : F.resultTypes = #[4]) (hfn : s.fn H ds = { results := [.lit (.bool true)], args := ds })
    (ht : ∀ t ∈ F.params.toList, Tryz.prog.readableRec t = true ∧ t < Tryz.prog.types.size) (hb : Below W.heap.size W W') : s.post enc Tryz.prog F false true false false W args (.bool true) W' := by
  subst hgs hq0
  rw [List.append_nil] at hq
  subst hq
  have hlt : ∀ x ∈ before, x.block < W.heap.size := fun x hx => hW.lt x hx
  refine ⟨ds, [], before, [], before, [], hW, ?_, ?_, ?_, hb.frame _, fun h => by cases h⟩
  · rw [List.append_nil, hfn, hr]
    exact trodAll_mk1 (shut_bool Tryz.underlying4 _)
  · rw [List.append_nil, hfn]
    exact args_below laidOut hb ht hA hlt _ (fun x hx => by simpa using hlt x hx)
  · rw [List.append_nil, hfn, hv]
    rfl
end
end Go.Proofs.YtmmijmhdbpldpaaGreatDoor
/- Small functions that several laws call: a byte in a text, a text some times, the alphabet without a byte. -/







namespace Go.Proofs.YtmmijmhdbpldpaaGreatDoor
open Go.RowKit
/-- A truth value is returned, which, where it is true, says P; the world is as it was. -/
def BoolF (P : Prop) (w : World) (e : Ending) (w' : World) : Prop := (∃ b, e = .returned (.bool b) ∧ (b = true → P)) ∧ w = w'
theorem BoolF.no {P : Prop} (w : World) : BoolF P w (.returned (.bool false)) w := ⟨⟨_, rfl, fun h => by cases h⟩, rfl⟩
theorem BoolF.yes {P : Prop} (w : World) (h : P) : BoolF P w (.returned (.bool true)) w := ⟨⟨_, rfl, fun _ => h⟩, rfl⟩
theorem indexByte_mem (l : List UInt8) (c : UInt8) : (c ∈ l → 0 ≤ Lib.indexByte l c) ∧ (c ∉ l → Lib.indexByte l c = -1) := by
  induction l with
  | nil => exact ⟨fun h => (by cases h), fun _ => rfl⟩
  | cons a t ih =>
    unfold Lib.indexByte
    by_cases hac : a = c
    · subst hac
      exact ⟨fun _ => by simp, fun h => absurd (List.mem_cons_self ..) h⟩
    · have hb : (a == c) = false := by simpa using hac
      rw [hb]
      simp only [Bool.false_eq_true, if_false]
      by_cases hm : c ∈ t
      · have h1 := ih.1 hm
        refine ⟨fun _ => ?_, fun h => absurd (List.mem_cons_of_mem _ hm) h⟩
        have : (Lib.indexByte t c == -1) = false := by simp; omega
        rw [this]
        simp
        omega
      · have h1 := ih.2 hm
        refine ⟨fun h => ?_, fun _ => by rw [h1]; rfl⟩
        rcases List.mem_cons.1 h with e | e
        · exact absurd e.symm hac
        · exact absurd e hm
set_option maxRecDepth 100000 in
set_option maxHeartbeats 1000000 in
theorem indexByte_any (s : ByteArray) (c : Int) (w : World) :
    Calls Tryz.prog 26 #[.string s, .int .u8 c] w fun e w' => e = .returned (.int .i64 (Lib.indexByte s.data.toList c.toNat.toUInt8)) ∧ w = w' := by
  go_enter Tryz.func26, Tryz.ntmps26
  go_wp2
  rw [run_callFunc_extern Tryz.func49 (by kernel_rfl) (by kernel_rfl) (by kernel_rfl) (e := Extern.BytealgIndexByte.indexByte) (by kernel_rfl), Lib.run_indexByteString]
  simp only [Result.andThen]
  rw [Oper.upon_value]
  go_wp2
  go_ret
  exact ⟨rfl, rfl⟩
/-- A text of at most m bytes of an alphabet. -/
def OnlyP (l al : List UInt8) (m : Nat) : Prop := l.length ≤ m ∧ ∀ c ∈ l, c ∈ al
def OnlyR (l al : List UInt8) (t14 : Value) : Prop := ∃ k : Nat, k ≤ l.length ∧ t14 = .int .i64 k ∧ ∀ c ∈ l.take k, c ∈ al
set_option maxHeartbeats 800000 in
theorem only_any (l al : List UInt8) (m : Nat) (w : World) (_ : m ≤ 1000000) (_ : l.length ≤ 9223372036854775807) :
    Calls Tryz.prog 10 #[.string ⟨l.toArray⟩, .string ⟨al.toArray⟩, .int .i64 m] w (BoolF (OnlyP l al m) w) := by
  have hz : (ByteArray.mk l.toArray).size = l.length := List.size_toArray ..
  have hbt := hid (fun (k : Nat) (h : k < l.length) => (by rw [bt_list, List.getElem?_eq_getElem h] : bt ⟨l.toArray⟩ k = ((l[k]'h).toNat : Int)))
  have HZ := hid hz
  generalize hs : (ByteArray.mk l.toArray) = s at hz hbt HZ ⊢
  have hb := get_bt s
  clear hs
  by_cases hlm : l.length ≤ m
  · have hlm2 : s.size ≤ m := by omega
    have hd : decide (m < s.size) = false := by simp; omega
    clear hz
    go_enter Tryz.func10, Tryz.ntmps10
    go_wp2_with fail
    go_loop [14] (fun t14 => OnlyR l al t14) (fun t14 => l.length - (intOf t14).toNat)
    case atStart => exact ⟨0, Nat.zero_le _, rfl, by simp⟩
    case round =>
      obtain ⟨k, hk, rfl, hin⟩ := hrel
      have HIN := hid hin
      clear hin
      by_cases hlt : k < l.length
      · have hks : k < s.size := by have := HZ.out; omega
        have hck := hid (hbt.out k hlt)
        have hu8 : Hid ((bt s k).toNat.toUInt8 = l[k]'hlt) := hid (by rw [hck.out]; simp)
        have htk := hid (show l.take (k + 1) = l.take k ++ [l[k]'hlt] by rw [List.take_add_one, List.getElem?_eq_getElem hlt]; rfl)
        have hmem := hid (indexByte_mem al (l[k]'hlt))
        generalize l[k]'hlt = c at hck hu8 htk hmem
        go_wp2_with fail
        refine (indexByte_any ⟨al.toArray⟩ (bt s k) w).mono ?_
        rintro e w' ⟨rfl, rfl⟩
        rw [hu8.out]
        by_cases hc : c ∈ al
        · have h0 := hmem.out.1 hc
          have h1 : ¬ Lib.indexByte al c < 0 := by omega
          go_wp2_with fail
          go_round
          case rel => exact ⟨k + 1, by omega, by go_num, by rw [htk.out]; intro x hx; rcases List.mem_append.1 hx with hx | hx; (· exact HIN.out x hx); (simp at hx; subst hx; exact hc)⟩
          case measure => simp [intOf]; omega
        · have h0 := hmem.out.2 hc
          have h1 : Lib.indexByte al c < 0 := by omega
          clear h0
          go_wp2_with fail
          go_ret
          exact BoolF.no _
      · obtain rfl : k = l.length := by omega
        have hks : ¬ l.length < s.size := by have := HZ.out; omega
        go_wp2_with fail
        go_ret
        exact BoolF.yes _ ⟨hlm, by have := HIN.out; rwa [List.take_of_length_le (Nat.le_refl _)] at this⟩
  · have hlm2 : m < s.size := by omega
    clear hz
    go_enter Tryz.func10, Tryz.ntmps10
    go_wp2_with fail
    go_ret
    exact BoolF.no _
/-- A sign, so and so often. -/
def repF (k : Nat) (c : UInt8) : ByteArray := ⟨(List.replicate k c).toArray⟩
theorem repF_succ (k : Nat) (c : UInt8) : repF k c ++ (ByteArray.mk #[c]) = repF (k + 1) c := by
  unfold repF
  rw [show (ByteArray.mk #[c]) = ⟨[c].toArray⟩ from rfl, cat_lists, List.replicate_succ']
theorem repF_size (k : Nat) (c : UInt8) : (repF k c).size = k := by simp [repF, ByteArray.size]
end Go.Proofs.YtmmijmhdbpldpaaGreatDoor
/- Words among which something stands: a paragraph each; where the parts of a text stand. -/


namespace Go.Proofs.YtmmijmhdbpldpaaGreatDoor
open Go.RowKit
structure WordL (l : List UInt8) : Prop where
  pos : 0 < l.length
  len : l.length ≤ 20
  chr : ∀ c ∈ l, c ∈ wcs
theorem word_any (l : List UInt8) (w : World) (hl : l.length ≤ 9223372036854775807) : Calls Tryz.prog 9 #[.string ⟨l.toArray⟩] w (BoolF (WordL l) w) := by
  have HO := hid (only_any l wcs 20 w (by omega) hl)
  cases l with
  | nil =>
    go_enter Tryz.func9, Tryz.ntmps9
    go_wp2_with fail
    go_ret
    exact BoolF.no w
  | cons c r =>
    go_enter Tryz.func9, Tryz.ntmps9
    go_wp2_with fail
    refine HO.out.mono ?_
    rintro e w' ⟨⟨b, rfl, hb⟩, rfl⟩
    cases b with
    | false =>
      go_wp2_with fail
      go_ret
      exact BoolF.no w
    | true =>
      obtain ⟨h1, h2⟩ := hb rfl
      go_wp2_with fail
      go_ret
      exact BoolF.yes w ⟨by simp, h1, h2⟩
theorem wcs_no {c : UInt8} (h : c ∈ wcs) : c ≠ 32 ∧ c ≠ 9 := by
  revert c; decide
theorem WordL.cons {a : List UInt8} (h : WordL a) : ∃ c r, a = c :: r ∧ c ∈ wcs := by
  cases a with
  | nil => have := h.pos; simp at this
  | cons c r => exact ⟨c, r, rfl, h.chr c (List.mem_cons_self ..)⟩
/-- A word, a space and printable text behind are a paragraph's line. -/
theorem wordSp_line (a rest : List UInt8) (ha : WordL a) (hr : ∀ c ∈ rest, 32 ≤ c.toNat) (hl : rest.length ≤ 90000) : ParLine ⟨(a ++ 32 :: rest).toArray⟩ := by
  obtain ⟨c0, r, rfl, hc0⟩ := ha.cons
  have hlen := ha.len
  have hsz : (ByteArray.mk ((c0 :: r) ++ 32 :: rest).toArray).size ≤ 100000 := by rw [sz_mk, List.length_append]; simp only [List.length_cons] at hlen ⊢; omega
  have hb : bt ⟨((c0 :: r) ++ 32 :: rest).toArray⟩ 0 = (c0.toNat : Int) := bt_some rfl
  have htab : ∀ k, bt ⟨((c0 :: r) ++ 32 :: rest).toArray⟩ k ≠ 9 := fun k => bt_mem _ k (fun z => z ≠ 9) (by decide) (fun c hc => by
    rcases List.mem_append.1 hc with h | h
    · have := ha.chr c h
      revert this
      exact (by decide : ∀ c ∈ wcs, (c.toNat : Int) ≠ 9) c
    · rcases List.mem_cons.1 h with rfl | h
      · decide
      · have := hr c h
        omega)
  have first : ∀ (P : Int → Prop), (∀ c ∈ wcs, P (c.toNat : Int)) → P (bt ⟨((c0 :: r) ++ 32 :: rest).toArray⟩ 0) := fun P hc => by rw [hb]; exact hc c0 hc0
  have h32 := first (fun z => z ≠ 32) (by decide)
  refine { size := hsz, pos := by rw [sz_mk]; simp, tab := htab, q := fun k hk => by rw [reach0 h32 hk]; exact first (fun z => z ≠ 62 ∧ z ≠ 35) (by decide), h32 := h32, hr := first (fun z => z ≠ 42 ∧ z ≠ 45 ∧ z ≠ 95) (by decide), lt_ := first (fun z => z ≠ 60) (by decide), fence := first (fun z => z ≠ 126) (by decide), tick := first (fun z => z ≠ 96) (by decide), item := ?_ }
  intro g b nl w hw
  by_cases hd : bt ⟨((c0 :: r) ++ 32 :: rest).toArray⟩ 0 = 48 ∨ bt ⟨((c0 :: r) ++ 32 :: rest).toArray⟩ 0 = 49 ∨ bt ⟨((c0 :: r) ++ 32 :: rest).toArray⟩ 0 = 57
  · refine startListItem_dig g b nl _ w hw hsz htab hd (fun k hk => ?_)
    have hL : ((c0 :: r) ++ 32 :: rest)[(c0 :: r).length]? = some 32 := by
      rw [List.getElem?_append_right (Nat.le_refl _), Nat.sub_self]
      rfl
    rcases Nat.lt_trichotomy k (c0 :: r).length with h | h | h
    · have e : ((c0 :: r) ++ 32 :: rest)[k]? = some (c0 :: r)[k] := by rw [List.getElem?_append_left h]; exact List.getElem?_eq_getElem h
      rw [bt_some e]
      have := ha.chr _ (List.getElem_mem h)
      revert this
      exact (by decide : ∀ c ∈ wcs, (c.toNat : Int) ≠ 46 ∧ (c.toNat : Int) ≠ 41) _
    · rw [h, bt_some hL]
      decide
    · have := hk _ h
      rw [bt_some hL] at this
      exact absurd this.1 (by decide)
  · refine startListItem_no g b 0 0 nl _ w hw (by omega) (Nat.zero_le _) htab (fun k hk => ?_)
    rw [reach0 h32 hk]
    have := first (fun z => z = 48 ∨ z = 49 ∨ z = 57 ∨ NoItem z) (by unfold NoItem; decide)
    rcases this with e | e | e | e
    · exact absurd (.inl e) hd
    · exact absurd (.inr (.inl e)) hd
    · exact absurd (.inr (.inr e)) hd
    · exact e
/-- Where the middle part of a text stands. -/
theorem at_mid {t p q r : List UInt8} (e : t = p ++ q ++ r) (m : Nat) (h1 : p.length ≤ m) (h2 : m < p.length + q.length) : ∃ c ∈ q, bt ⟨t.toArray⟩ m = (c.toNat : Int) := by
  have h3 : m - p.length < q.length := by omega
  refine ⟨q[m - p.length], List.getElem_mem h3, bt_some ?_⟩
  rw [e, List.append_assoc, List.getElem?_append_right h1, List.getElem?_append_left h3]
  exact List.getElem?_eq_getElem h3
theorem ext_mid {t p q r : List UInt8} (e : t = p ++ q ++ r) (a b : Nat) (ha : a = p.length) (hb : b = p.length + q.length) : (ByteArray.mk t.toArray).extract a b = ⟨q.toArray⟩ := by
  subst ha hb
  rw [extract_mk]
  have h1 : t.take (p.length + q.length) = p ++ q := by
    rw [e]
    exact List.take_left' (by rw [List.length_append])
  have h2 : (p ++ q).drop p.length = q := List.drop_left' rfl
  show ByteArray.mk ((t.take (p.length + q.length)).drop p.length).toArray = _
  rw [h1, h2]
/-- A text without signs, of which autoLinkText makes something. -/
theorem inlC_quietA (o : Opt) (t out : List UInt8) (hl : t.length ≤ 100000) (hp : 0 < t.length) (htr : trimR (trimL t) = t) (hq : ∀ (g : Nat), ∀ c ∈ t, parF o g (c.toNat : Int) = none ∧ c ≠ 96) (ha : ∀ B g r, AutP o B g r out [plainK t]) : InlC o t out := by
  intro g r w hps hpar hne hbk
  refine inline_loop o g r ⟨t.toArray⟩ ⟨t.toArray⟩ w (fun _ em tk _ ks => em = 0 ∧ tk = false ∧ ks = []) (fun ks => ks = [plainK t]) hps hpar hne out (bsz hl) (by simp only [htr]) (bsz hl) ?_ (fun ks hF _ => ?_)
  · refine { start := ⟨rfl, rfl, rfl⟩, fin := ?_, quiet := ?_, tick := ?_, call := ?_ }
    · rintro em tk bk ks ⟨rfl, rfl, rfl⟩
      exact piece_all t hp
    · intro i em tk bk ks h _ _ _
      exact h
    · intro i em tk bk ks _ _ hi h96 _
      rw [sz_mk] at hi
      obtain ⟨c, _, h2, h3⟩ := bt_get hi
      rw [h3] at h96
      exact absurd (UInt8.toNat_inj.1 (by rw [show (96 : UInt8).toNat = 96 from rfl]; omega)) (hq 0 c h2).2
    · intro i em tk bk ks f rv _ _ hi hpf
      rw [sz_mk] at hi
      obtain ⟨c, _, h2, h3⟩ := bt_get hi
      rw [h3, (hq g c h2).1] at hpf
      cases hpf
  · subst hF
    have hm : mergeA [] [plainK t] = [plainK t] := by
      rw [mergeA_plain, mergeA, flushK]
      simp
    rw [hm]
    exact ⟨by simp, by simp [plainOf_plain]; omega, ha _ _ _⟩
end Go.Proofs.YtmmijmhdbpldpaaGreatDoor
/- The pairs that escape a link's destination. -/


namespace Go.Proofs.YtmmijmhdbpldpaaGreatDoor
open Go.RowKit
def linkL : List Value := [.string ⟨#[34]⟩, .string ⟨#[37, 50, 50]⟩, .string ⟨#[38]⟩, .string ⟨#[38, 97, 109, 112, 59]⟩, .string ⟨#[60]⟩, .string ⟨#[37, 51, 67]⟩, .string ⟨#[62]⟩, .string ⟨#[37, 51, 69]⟩, .string ⟨#[92]⟩, .string ⟨#[37, 53, 67]⟩, .string ⟨#[32]⟩, .string ⟨#[37, 50, 48]⟩, .string ⟨#[96]⟩, .string ⟨#[37, 54, 48]⟩, .string ⟨#[91]⟩, .string ⟨#[37, 53, 66]⟩, .string ⟨#[93]⟩, .string ⟨#[37, 53, 68]⟩, .string ⟨#[94]⟩, .string ⟨#[37, 53, 69]⟩, .string ⟨#[123]⟩, .string ⟨#[37, 55, 66]⟩, .string ⟨#[125]⟩, .string ⟨#[37, 55, 68]⟩, .string ⟨#[0]⟩, .string ⟨#[37, 48, 48]⟩, .string ⟨#[1]⟩, .string ⟨#[37, 48, 49]⟩, .string ⟨#[2]⟩, .string ⟨#[37, 48, 50]⟩, .string ⟨#[3]⟩, .string ⟨#[37, 48, 51]⟩, .string ⟨#[4]⟩, .string ⟨#[37, 48, 52]⟩, .string ⟨#[5]⟩, .string ⟨#[37, 48, 53]⟩, .string ⟨#[6]⟩, .string ⟨#[37, 48, 54]⟩, .string ⟨#[7]⟩, .string ⟨#[37, 48, 55]⟩, .string ⟨#[8]⟩, .string ⟨#[37, 48, 56]⟩, .string ⟨#[11]⟩, .string ⟨#[37, 48, 66]⟩, .string ⟨#[12]⟩, .string ⟨#[37, 48, 67]⟩, .string ⟨#[14]⟩, .string ⟨#[37, 48, 69]⟩, .string ⟨#[15]⟩, .string ⟨#[37, 48, 70]⟩, .string ⟨#[16]⟩, .string ⟨#[37, 49, 48]⟩, .string ⟨#[17]⟩, .string ⟨#[37, 49, 49]⟩, .string ⟨#[18]⟩, .string ⟨#[37, 49, 50]⟩, .string ⟨#[19]⟩, .string ⟨#[37, 49, 51]⟩, .string ⟨#[20]⟩, .string ⟨#[37, 49, 52]⟩, .string ⟨#[21]⟩, .string ⟨#[37, 49, 53]⟩, .string ⟨#[22]⟩, .string ⟨#[37, 49, 54]⟩, .string ⟨#[23]⟩, .string ⟨#[37, 49, 55]⟩, .string ⟨#[24]⟩, .string ⟨#[37, 49, 56]⟩, .string ⟨#[25]⟩, .string ⟨#[37, 49, 57]⟩, .string ⟨#[26]⟩, .string ⟨#[37, 49, 65]⟩, .string ⟨#[27]⟩, .string ⟨#[37, 49, 66]⟩, .string ⟨#[28]⟩, .string ⟨#[37, 49, 67]⟩, .string ⟨#[29]⟩, .string ⟨#[37, 49, 68]⟩, .string ⟨#[30]⟩, .string ⟨#[37, 49, 69]⟩, .string ⟨#[31]⟩, .string ⟨#[37, 49, 70]⟩, .string ⟨#[127]⟩, .string ⟨#[37, 55, 70]⟩, .string ⟨#[128]⟩, .string ⟨#[37, 56, 48]⟩, .string ⟨#[129]⟩, .string ⟨#[37, 56, 49]⟩, .string ⟨#[130]⟩, .string ⟨#[37, 56, 50]⟩, .string ⟨#[131]⟩, .string ⟨#[37, 56, 51]⟩, .string ⟨#[132]⟩, .string ⟨#[37, 56, 52]⟩, .string ⟨#[133]⟩, .string ⟨#[37, 56, 53]⟩, .string ⟨#[134]⟩, .string ⟨#[37, 56, 54]⟩, .string ⟨#[135]⟩, .string ⟨#[37, 56, 55]⟩, .string ⟨#[136]⟩, .string ⟨#[37, 56, 56]⟩, .string ⟨#[137]⟩, .string ⟨#[37, 56, 57]⟩, .string ⟨#[138]⟩, .string ⟨#[37, 56, 65]⟩, .string ⟨#[139]⟩, .string ⟨#[37, 56, 66]⟩, .string ⟨#[140]⟩, .string ⟨#[37, 56, 67]⟩, .string ⟨#[141]⟩, .string ⟨#[37, 56, 68]⟩, .string ⟨#[142]⟩, .string ⟨#[37, 56, 69]⟩, .string ⟨#[143]⟩, .string ⟨#[37, 56, 70]⟩, .string ⟨#[144]⟩, .string ⟨#[37, 57, 48]⟩, .string ⟨#[145]⟩, .string ⟨#[37, 57, 49]⟩, .string ⟨#[146]⟩, .string ⟨#[37, 57, 50]⟩, .string ⟨#[147]⟩, .string ⟨#[37, 57, 51]⟩, .string ⟨#[148]⟩, .string ⟨#[37, 57, 52]⟩, .string ⟨#[149]⟩, .string ⟨#[37, 57, 53]⟩, .string ⟨#[150]⟩, .string ⟨#[37, 57, 54]⟩, .string ⟨#[151]⟩, .string ⟨#[37, 57, 55]⟩, .string ⟨#[152]⟩, .string ⟨#[37, 57, 56]⟩, .string ⟨#[153]⟩, .string ⟨#[37, 57, 57]⟩, .string ⟨#[154]⟩, .string ⟨#[37, 57, 65]⟩, .string ⟨#[155]⟩, .string ⟨#[37, 57, 66]⟩, .string ⟨#[156]⟩, .string ⟨#[37, 57, 67]⟩, .string ⟨#[157]⟩, .string ⟨#[37, 57, 68]⟩, .string ⟨#[158]⟩, .string ⟨#[37, 57, 69]⟩, .string ⟨#[159]⟩, .string ⟨#[37, 57, 70]⟩, .string ⟨#[160]⟩, .string ⟨#[37, 65, 48]⟩, .string ⟨#[161]⟩, .string ⟨#[37, 65, 49]⟩, .string ⟨#[162]⟩, .string ⟨#[37, 65, 50]⟩, .string ⟨#[163]⟩, .string ⟨#[37, 65, 51]⟩, .string ⟨#[164]⟩, .string ⟨#[37, 65, 52]⟩, .string ⟨#[165]⟩, .string ⟨#[37, 65, 53]⟩, .string ⟨#[166]⟩, .string ⟨#[37, 65, 54]⟩, .string ⟨#[167]⟩, .string ⟨#[37, 65, 55]⟩, .string ⟨#[168]⟩, .string ⟨#[37, 65, 56]⟩, .string ⟨#[169]⟩, .string ⟨#[37, 65, 57]⟩, .string ⟨#[170]⟩, .string ⟨#[37, 65, 65]⟩, .string ⟨#[171]⟩, .string ⟨#[37, 65, 66]⟩, .string ⟨#[172]⟩, .string ⟨#[37, 65, 67]⟩, .string ⟨#[173]⟩, .string ⟨#[37, 65, 68]⟩, .string ⟨#[174]⟩, .string ⟨#[37, 65, 69]⟩, .string ⟨#[175]⟩, .string ⟨#[37, 65, 70]⟩, .string ⟨#[176]⟩, .string ⟨#[37, 66, 48]⟩, .string ⟨#[177]⟩, .string ⟨#[37, 66, 49]⟩, .string ⟨#[178]⟩, .string ⟨#[37, 66, 50]⟩, .string ⟨#[179]⟩, .string ⟨#[37, 66, 51]⟩, .string ⟨#[180]⟩, .string ⟨#[37, 66, 52]⟩, .string ⟨#[181]⟩, .string ⟨#[37, 66, 53]⟩, .string ⟨#[182]⟩, .string ⟨#[37, 66, 54]⟩, .string ⟨#[183]⟩, .string ⟨#[37, 66, 55]⟩, .string ⟨#[184]⟩, .string ⟨#[37, 66, 56]⟩, .string ⟨#[185]⟩, .string ⟨#[37, 66, 57]⟩, .string ⟨#[186]⟩, .string ⟨#[37, 66, 65]⟩, .string ⟨#[187]⟩, .string ⟨#[37, 66, 66]⟩, .string ⟨#[188]⟩, .string ⟨#[37, 66, 67]⟩, .string ⟨#[189]⟩, .string ⟨#[37, 66, 68]⟩, .string ⟨#[190]⟩, .string ⟨#[37, 66, 69]⟩, .string ⟨#[191]⟩, .string ⟨#[37, 66, 70]⟩, .string ⟨#[192]⟩, .string ⟨#[37, 67, 48]⟩, .string ⟨#[193]⟩, .string ⟨#[37, 67, 49]⟩, .string ⟨#[194]⟩, .string ⟨#[37, 67, 50]⟩, .string ⟨#[195]⟩, .string ⟨#[37, 67, 51]⟩, .string ⟨#[196]⟩, .string ⟨#[37, 67, 52]⟩, .string ⟨#[197]⟩, .string ⟨#[37, 67, 53]⟩, .string ⟨#[198]⟩, .string ⟨#[37, 67, 54]⟩, .string ⟨#[199]⟩, .string ⟨#[37, 67, 55]⟩, .string ⟨#[200]⟩, .string ⟨#[37, 67, 56]⟩, .string ⟨#[201]⟩, .string ⟨#[37, 67, 57]⟩, .string ⟨#[202]⟩, .string ⟨#[37, 67, 65]⟩, .string ⟨#[203]⟩, .string ⟨#[37, 67, 66]⟩, .string ⟨#[204]⟩, .string ⟨#[37, 67, 67]⟩, .string ⟨#[205]⟩, .string ⟨#[37, 67, 68]⟩, .string ⟨#[206]⟩, .string ⟨#[37, 67, 69]⟩, .string ⟨#[207]⟩, .string ⟨#[37, 67, 70]⟩, .string ⟨#[208]⟩, .string ⟨#[37, 68, 48]⟩, .string ⟨#[209]⟩, .string ⟨#[37, 68, 49]⟩, .string ⟨#[210]⟩, .string ⟨#[37, 68, 50]⟩, .string ⟨#[211]⟩, .string ⟨#[37, 68, 51]⟩, .string ⟨#[212]⟩, .string ⟨#[37, 68, 52]⟩, .string ⟨#[213]⟩, .string ⟨#[37, 68, 53]⟩, .string ⟨#[214]⟩, .string ⟨#[37, 68, 54]⟩, .string ⟨#[215]⟩, .string ⟨#[37, 68, 55]⟩, .string ⟨#[216]⟩, .string ⟨#[37, 68, 56]⟩, .string ⟨#[217]⟩, .string ⟨#[37, 68, 57]⟩, .string ⟨#[218]⟩, .string ⟨#[37, 68, 65]⟩, .string ⟨#[219]⟩, .string ⟨#[37, 68, 66]⟩, .string ⟨#[220]⟩, .string ⟨#[37, 68, 67]⟩, .string ⟨#[221]⟩, .string ⟨#[37, 68, 68]⟩, .string ⟨#[222]⟩, .string ⟨#[37, 68, 69]⟩, .string ⟨#[223]⟩, .string ⟨#[37, 68, 70]⟩, .string ⟨#[224]⟩, .string ⟨#[37, 69, 48]⟩, .string ⟨#[225]⟩, .string ⟨#[37, 69, 49]⟩, .string ⟨#[226]⟩, .string ⟨#[37, 69, 50]⟩, .string ⟨#[227]⟩, .string ⟨#[37, 69, 51]⟩, .string ⟨#[228]⟩, .string ⟨#[37, 69, 52]⟩, .string ⟨#[229]⟩, .string ⟨#[37, 69, 53]⟩, .string ⟨#[230]⟩, .string ⟨#[37, 69, 54]⟩, .string ⟨#[231]⟩, .string ⟨#[37, 69, 55]⟩, .string ⟨#[232]⟩, .string ⟨#[37, 69, 56]⟩, .string ⟨#[233]⟩, .string ⟨#[37, 69, 57]⟩, .string ⟨#[234]⟩, .string ⟨#[37, 69, 65]⟩, .string ⟨#[235]⟩, .string ⟨#[37, 69, 66]⟩, .string ⟨#[236]⟩, .string ⟨#[37, 69, 67]⟩, .string ⟨#[237]⟩, .string ⟨#[37, 69, 68]⟩, .string ⟨#[238]⟩, .string ⟨#[37, 69, 69]⟩, .string ⟨#[239]⟩, .string ⟨#[37, 69, 70]⟩, .string ⟨#[240]⟩, .string ⟨#[37, 70, 48]⟩, .string ⟨#[241]⟩, .string ⟨#[37, 70, 49]⟩, .string ⟨#[242]⟩, .string ⟨#[37, 70, 50]⟩, .string ⟨#[243]⟩, .string ⟨#[37, 70, 51]⟩, .string ⟨#[244]⟩, .string ⟨#[37, 70, 52]⟩, .string ⟨#[245]⟩, .string ⟨#[37, 70, 53]⟩, .string ⟨#[246]⟩, .string ⟨#[37, 70, 54]⟩, .string ⟨#[247]⟩, .string ⟨#[37, 70, 55]⟩, .string ⟨#[248]⟩, .string ⟨#[37, 70, 56]⟩, .string ⟨#[249]⟩, .string ⟨#[37, 70, 57]⟩, .string ⟨#[250]⟩, .string ⟨#[37, 70, 65]⟩, .string ⟨#[251]⟩, .string ⟨#[37, 70, 66]⟩, .string ⟨#[252]⟩, .string ⟨#[37, 70, 67]⟩, .string ⟨#[253]⟩, .string ⟨#[37, 70, 68]⟩, .string ⟨#[254]⟩, .string ⟨#[37, 70, 69]⟩, .string ⟨#[255]⟩, .string ⟨#[37, 70, 70]⟩]
def linkFirst : List Nat := [34, 38, 60, 62, 92, 32, 96, 91, 93, 94, 123, 125, 0, 1, 2, 3, 4, 5, 6, 7, 8, 11, 12, 14, 15, 16, 17, 18, 19, 20, 21, 22, 23, 24, 25, 26, 27, 28, 29, 30, 31, 127, 128, 129, 130, 131, 132, 133, 134, 135, 136, 137, 138, 139, 140, 141, 142, 143, 144, 145, 146, 147, 148, 149, 150, 151, 152, 153, 154, 155, 156, 157, 158, 159, 160, 161, 162, 163, 164, 165, 166, 167, 168, 169, 170, 171, 172, 173, 174, 175, 176, 177, 178, 179, 180, 181, 182, 183, 184, 185, 186, 187, 188, 189, 190, 191, 192, 193, 194, 195, 196, 197, 198, 199, 200, 201, 202, 203, 204, 205, 206, 207, 208, 209, 210, 211, 212, 213, 214, 215, 216, 217, 218, 219, 220, 221, 222, 223, 224, 225, 226, 227, 228, 229, 230, 231, 232, 233, 234, 235, 236, 237, 238, 239, 240, 241, 242, 243, 244, 245, 246, 247, 248, 249, 250, 251, 252, 253, 254, 255]
theorem infoStr : (Tryz.prog.info? 9).map (fun i => (i.zero, i.size, i.bytes)) = some (some (.string ⟨#[]⟩), 1, 16) := by kernel_rfl
set_option maxRecDepth 100000 in
set_option maxHeartbeats 4000000 in
theorem htmlLinkEscaper_any (w : World) : Calls Tryz.prog 264 #[] w fun e w' => ∃ n, e = .returned (.slice (some ⟨n, 0, none⟩) 340 340) ∧ w.heap.size ≤ n ∧ Blk w' n 9 linkL.toArray ∧ Below w.heap.size w w' := by
  obtain ⟨ie, hie, hz, hs1, hs2⟩ := info_parts infoStr
  go_enter Tryz.func264, Tryz.ntmps264
  go_wp2_with (refine wpList_buildSlice rfl 346 9 340 _ rfl linkL.toArray ie (.string ⟨#[]⟩) Tryz.underlying346 hie hz (by rw [hs1]; decide) (by rw [hs1]; decide) (by rw [hs1]; kernel_rfl) ?_)
  go_ret
  exact ⟨_, rfl, Nat.le_refl _, Blk.new _ _ _, (Below.refl _ _).alloc (Nat.le_refl _) _⟩
end Go.Proofs.YtmmijmhdbpldpaaGreatDoor
/- A link: its destination escaped, where nothing in it wants escaping; no HTML. -/


namespace Go.Proofs.YtmmijmhdbpldpaaGreatDoor
open Go.RowKit
def evens : List Value → List Value
  | a :: _ :: t => a :: evens t
  | _ => []
theorem evens_get : ∀ (l : List Value) (j : Nat), l.length % 2 = 0 → (evens l)[j]? = l[2 * j]?
  | [], j, _ => by simp [evens]
  | [a], j, h => by simp at h
  | a :: b :: t, 0, _ => rfl
  | a :: b :: t, j + 1, h => by
    rw [evens, List.getElem?_cons_succ, evens_get t j (by simp only [List.length_cons] at h; omega), show 2 * (j + 1) = 2 * j + 1 + 1 from by omega]
    rfl
theorem link_evens : evens linkL = linkFirst.map (fun c => Value.string ⟨#[UInt8.ofNat c]⟩) := by kernel_rfl
theorem link_len : linkL.length = 340 := by kernel_rfl
/-- A byte that stays as it is in a destination. -/
def Plainly (z : Int) : Prop := ∀ c ∈ linkFirst, z ≠ (((UInt8.ofNat c).toNat : Nat) : Int)
theorem link_cell (q : Nat) (h : q < 340) (h2 : q % 2 = 0) : ∃ c : UInt8, linkL[q]? = some (.string ⟨#[c]⟩) ∧ ∀ z : Int, Plainly z → z ≠ (c.toNat : Int) := by
  obtain ⟨j, rfl⟩ : ∃ j, q = 2 * j := ⟨q / 2, by omega⟩
  have e := evens_get linkL j (by rw [link_len])
  rw [link_evens, List.getElem?_map] at e
  have hj : 2 * j < linkL.length := by rw [link_len]; exact h
  rw [List.getElem?_eq_getElem hj] at e ⊢
  cases hf : linkFirst[j]? with
  | none => rw [hf] at e; cases e
  | some c =>
    rw [hf] at e
    simp only [Option.map_some, Option.some.injEq] at e
    refine ⟨UInt8.ofNat c, by rw [e], fun z hz => hz c (List.mem_of_getElem? hf)⟩
def LinkR (B b : Nat) (bs : List UInt8) (s : ByteArray) (w : World) (t6 : Value) (wr : World) : Prop :=
  ∃ i : Nat, i ≤ s.size ∧ t6 = .int .i64 i ∧ IsBuf B b (bs ++ s.data.toList.take i) wr ∧ Below B w wr ∧ Kept b w wr
set_option maxRecDepth 20000 in
set_option maxHeartbeats 4000000 in
theorem link_write (B b n : Nat) (bs : List UInt8) (s : ByteArray) (w : World) (hn : Blk w n 9 linkL.toArray) (hbuf : IsBuf B b bs w) (hB : B ≤ w.heap.size) (hs : s.size ≤ 100000) (hl : bs.length ≤ 1000000) (hq : ∀ i, i < s.size → Plainly (bt s i)) :
    Calls Tryz.prog 258 #[.slice (some ⟨n, 0, none⟩) 340 340, .pointer (some ⟨b, 0, none⟩), .string s] w (PrintP B b bs s.data.toList w) := by
  have hb := get_bt s
  have HL := hid (Lib.size_eq s)
  have HBUF := hid hbuf
  have hnb : n ≠ b := by
    obtain ⟨cs, hcs⟩ := hbuf.blk
    exact Blk.ne_ hn hcs (by decide)
  have HN := hid hn
  have HQ := hid hq
  clear hbuf hn hq
  go_enter Tryz.func258, Tryz.ntmps258
  go_wp2_with fail
  go_step3
  go_wp2_with fail
  go_step3
  go_wp2_with fail
  go_loopw [6] (fun t6 wr => LinkR B b bs s w t6 wr) (fun t6 _ => s.size - (intOf t6).toNat)
  case atStart => exact ⟨0, Nat.zero_le _, rfl, by simpa using HBUF.out, Below.refl _ _, Lib.OthersKept.refl _ _ _⟩
  case round =>
    obtain ⟨i, hi, rfl, hbf, hbel, hk⟩ := hrel
    by_cases hlt : i < s.size
    · have hll : i < s.data.toList.length := by rw [← HL.out]; exact hlt
      have HET := hid (show s.data.toList.take (i + 1) = s.data.toList.take i ++ [s.data.toList[i]'hll] from by rw [List.take_add_one, List.getElem?_eq_getElem hll]; rfl)
      have hbt : bt s i = ((s.data.toList[i]'hll).toNat : Int) := by unfold bt; rw [dif_pos hlt]; rfl
      have hel : (s.data.toList.take i).length = i := by rw [List.length_take]; omega
      have hQi := HQ.out i hlt
      generalize s.data.toList.take i = ls at HET hel hbf ⊢
      generalize s.data.toList[i]'hll = c at HET hbt
      have HC := hid (Blk.kept HN.out hk hnb (by decide))
      have hBw : B ≤ wr.heap.size := Nat.le_trans hB hbel.size
      have HBF := hid hbf
      have HBL := hid hbel
      have HK := hid hk
      have HBT := hid hbt
      have HQI := hid hQi
      clear hbf hbel hk hbt hQi
      go_wp2_with fail
      go_loopw [7] (fun t7 wx => ∃ (q k : Nat), t7 = .int .i64 q ∧ q ≤ 340 ∧ q % 2 = 0 ∧ wx = wr.drewN k) (fun t7 _ => 342 - (intOf t7).toNat)
      case atStart => exact ⟨0, 0, rfl, by omega, rfl, rfl⟩
      case round =>
        obtain ⟨q, k, rfl, hq1, hq2, rfl⟩ := hrel
        by_cases hlq : q < 340
        · obtain ⟨c1, hc1, hc2⟩ := link_cell q hlq hq2
          have hcell : wr.cell? ⟨n, q, none⟩ = some (.string ⟨#[c1]⟩) := HC.out.at_ q (by simpa using hc1)
          have hne : (bt s i == (c1.toNat : Int)) = false := by simpa using hc2 _ HQI.out
          have e1 : ∀ h, ((((ByteArray.mk #[c1])[0]'h).toNat : Nat) : Int) = c1.toNat := fun _ => rfl
          have hz1 : (ByteArray.mk #[c1]).size = 1 := rfl
          clear hc1 hc2
          go_wp2_with fail
          go_quiet (fail)
          go_wp2_with fail
          go_roundw
          case rel => exact ⟨q + 2, k + nq, by go_num, by omega, by omega, rfl⟩
          case measure => simp [intOf]; omega
        · obtain rfl : q = 340 := by omega
          have HWB := hid (write_byte B b (bs ++ ls) c (wr.drewN k) HBF.out hBw (by rw [List.length_append]; omega))
          rw [← HBT.out] at HWB
          go_wp2_with fail
          refine HWB.out.mono ?_
          rintro e w3 ⟨rfl, h3, b3, k3⟩
          have HB3 := hid h3
          have HL3 := hid b3
          have HK3 := hid k3
          clear h3 b3 k3
          go_wp2_with fail
          go_roundw
          case rel => exact ⟨i + 1, by omega, by go_num, by rw [HET.out, ← List.append_assoc]; exact HB3.out, (below_drewN HBL.out _).trans HL3.out, Lib.OthersKept.trans HK.out (show Lib.OthersKept _ _ wr w3 from HK3.out)⟩
          case measure => simp [intOf]; omega
    · obtain rfl : i = s.size := by omega
      have ht : s.data.toList.take s.size = s.data.toList := List.take_of_length_le (by rw [HL.out]; exact Nat.le_refl _)
      rw [ht] at hbf
      have HBF := hid hbf
      have HBL := hid hbel
      have HK := hid hk
      clear ht hbf hbel hk
      go_wp2_with fail
      all_goals (try rw [Exit.noGoto_normal])
      go_end0
      exact ⟨rfl, HBF.out, HBL.out, HK.out⟩
set_option maxRecDepth 20000 in
set_option maxHeartbeats 800000 in
theorem linkReplace_any (n : Nat) (s : ByteArray) (w : World) (hn : Blk w n 9 linkL.toArray) (hs : s.size ≤ 100000) (hq : ∀ i, i < s.size → Plainly (bt s i)) :
    Calls Tryz.prog 265 #[.slice (some ⟨n, 0, none⟩) 340 340, .string s] w fun e w' => e = .returned (.string s) ∧ Below w.heap.size w w' := by
  have hw := hid (link_write w.heap.size w.heap.size n [] s (w.alloc (.cells #[.slice none 0 0, .int .i64 0, .int .i8 0] 73)) (Blk.alloc hn _) (Lib.fresh_isBuffer _ _ _) (by simp) hs (by simp) hq)
  clear hn hq
  go_enter Tryz.func265, Tryz.ntmps265
  go_wp2_with fail
  refine hw.out.mono ?_
  rintro e w1 ⟨rfl, hb1, hbl1, _⟩
  have HB1 := hid hb1
  have HBL1 := hid hbl1
  clear hb1 hbl1
  go_wp2_with fail
  refine (buf_str w.heap.size w.heap.size _ _ HB1.out).mono ?_
  rintro e w2 ⟨rfl, n2, rfl⟩
  go_wp2_with fail
  go_ret
  exact ⟨rfl, below_drewN (((Below.refl _ _).alloc (Nat.le_refl _) _).trans HBL1.out) n2⟩
end Go.Proofs.YtmmijmhdbpldpaaGreatDoor
/- test -/

namespace Go.Proofs.YtmmijmhdbpldpaaGreatDoor
open Go.RowKit
/-- A link whose text is one plain text. -/
def IsLink1 (w : World) (b rb pb c : Nat) (t u : ByteArray) : Prop :=
  Blk w b 144 #[.slice (some ⟨rb, 0, none⟩) 1 c, .string u, .string ⟨#[]⟩, .int .u8 0, .bool false] ∧ Blk w rb 132 #[.iface 156 (.pointer (some ⟨pb, 0, none⟩))] ∧ Blk w pb 137 #[.string t]
theorem IsLink1.mod {w w' : World} {b rb pb c : Nat} {t u : ByteArray} {S : Nat → Prop} (h : IsLink1 w b rb pb c t u) (hm : Mod S w w') (h1 : ¬ S b) (h2 : ¬ S rb) (h3 : ¬ S pb) : IsLink1 w' b rb pb c t u :=
  ⟨h.1.mod hm h1, h.2.1.mod hm h2, h.2.2.mod hm h3⟩
theorem IsLink1.kept {w w' : World} {b rb pb c q : Nat} {t u : ByteArray} (h : IsLink1 w b rb pb c t u) (hk : Kept q w w') (h1 : b ≠ q) (h2 : rb ≠ q) (h3 : pb ≠ q) : IsLink1 w' b rb pb c t u :=
  ⟨h.1.kept hk h1 (by decide), h.2.1.kept hk h2 (by decide), h.2.2.kept hk h3 (by decide)⟩
def linkOut (u t : List UInt8) : List UInt8 := [60, 97, 32, 104, 114, 101, 102, 61, 34] ++ u ++ [34] ++ [62] ++ esc t ++ [60, 47, 97, 62]
theorem link_bytes (u : ByteArray) : (ByteArray.mk #[60, 97, 32, 104, 114, 101, 102, 61, 34] ++ u) ++ ByteArray.mk #[34] = ⟨([60, 97, 32, 104, 114, 101, 102, 61, 34] ++ u.data.toList ++ [34]).toArray⟩ := by
  have e : u = ⟨u.data.toList.toArray⟩ := ByteArray.ext Array.toArray_toList.symm
  rw [show ByteArray.mk #[60, 97, 32, 104, 114, 101, 102, 61, 34] = ⟨[60, 97, 32, 104, 114, 101, 102, 61, 34].toArray⟩ from rfl, show ByteArray.mk #[34] = ⟨[34].toArray⟩ from rfl]
  rw [e]
  simp only [cat_lists]
set_option maxRecDepth 20000 in
set_option maxHeartbeats 800000 in
theorem linkHTML_any (B q b rb pb c : Nat) (bs : List UInt8) (t u : ByteArray) (w : World) (h : IsLink1 w b rb pb c t u) (hbq : b ≠ q) (hrq : rb ≠ q) (hpq : pb ≠ q) (hbuf : IsBuf B q bs w) (hB : B ≤ w.heap.size) (ht : t.size ≤ 10000) (hu : u.size ≤ 10000) (hl : bs.length + u.size + 15 ≤ 1000000) (hq : ∀ i, i < u.size → Plainly (bt u i)) :
    Calls Tryz.prog 261 #[.pointer (some ⟨b, 0, none⟩), .pointer (some ⟨q, 0, none⟩)] w (PrintP B q bs (linkOut u.data.toList t.data.toList) w) := by
  have c1 := h.1.at_ 1 (v := .string u) rfl
  have H := hid h
  have HQ := hid hq
  clear hq
  have HBUF := hid hbuf
  have hul : u.data.toList.length = u.size := (Lib.size_eq u).symm
  have htl : t.data.toList.length = t.size := (Lib.size_eq t).symm
  have hel : (esc t.data.toList).length ≤ 60000 := Nat.le_trans (esc_len _) (by omega)
  have hc1 : ¬ 9223372036854775807 < 9 + u.size := by omega
  have hc2 : ¬ 9223372036854775807 < 9 + u.size + 1 := by omega
  have HSB := hid (link_bytes u)
  have HSZ := hid (show (((ByteArray.mk #[60, 97, 32, 104, 114, 101, 102, 61, 34] ++ u) ++ ByteArray.mk #[34]) : ByteArray).size + bs.length ≤ 2000000 from by rw [ByteArray.size_append, ByteArray.size_append]; show 9 + u.size + 1 + bs.length ≤ 2000000; omega)
  have hm : ∀ W, (method 475 156 (.pointer (some ⟨pb, 0, none⟩)) "PrintHTML").run Tryz.prog W = .ok (254, .pointer (some ⟨pb, 0, none⟩)) W := fun W => by kernel_rfl
  have he := Go.Proofs.enters_of Tryz.func254 (by kernel_rfl) rfl
  clear h hbuf
  go_enter Tryz.func261, Tryz.ntmps261
  go_wp2_with fail
  go_region_law (first
    | (go_simp; go_at_call 264; refine (htmlLinkEscaper_any _).mono ?_; rintro e w4 ⟨n4, rfl, hn4, hp4, hb4⟩; have HP4 := hid hp4; clear hp4; have c1' := Blk.at_ (Blk.mod (w := World.drew w) (S := fun _ => False) H.out.1 (Mod.below' hb4) (fun x => x)) 1 (v := .string u) rfl)
    | (go_simp; go_at_call 265; refine (linkReplace_any n4 u _ HP4.out (by omega) HQ.out).mono ?_; rintro e w5 ⟨rfl, hb5⟩)
    | (go_simp; go_at_call 245; refine (write_str B q bs _ w5 (IsBuf.old (IsBuf.old (w := World.drew w) HBUF.out hb4) hb5) (Nat.le_trans (Nat.le_trans hB hb4.size) hb5.size) (by have := HSZ.out; omega)).mono ?_; rintro e w6 ⟨rfl, hi6, hb6, hk6⟩))
  all_goals
    rw [HSB.out] at hi6
    have hk06 : Kept q w w6 := (show Kept q (World.drew w) w6 from Lib.OthersKept.trans (Lib.OthersKept.below (Lib.OthersKept.below (Lib.OthersKept.refl _ _ (World.drew w)) hb4) hb5) hk6)
    have hb06 : Below B w w6 := ((below_drewN (Below.refl B w) 1).trans (hb4.mono hB)).trans ((hb5.mono (Nat.le_trans hB hb4.size)).trans hb6)
    have h6 := H.out.kept hk06 hbq hrq hpq
    have HK6 := hid hk06
    have HB6 := hid hb06
    have HI6 := hid hi6
    have c0 := h6.1.at_ 0 (v := .slice (some ⟨rb, 0, none⟩) 1 c) rfl
    have c2 := h6.1.at_ 2 (v := .string ⟨#[]⟩) rfl
    have H6 := hid h6
    clear c1' hb4 hb5 hb6 hk6 hk06 hb06 hi6 HP4 hn4 c1 h6 H HBUF HSB HSZ
    go_wp2_with fail
    refine (write_str B q _ ⟨#[62]⟩ w6 HI6.out (Nat.le_trans hB HB6.out.size) (by have : (ByteArray.mk #[62]).size = 1 := rfl; simp; omega)).mono ?_
    rintro e w7 ⟨rfl, hi7, hb7, hk7⟩
    have h7 := H6.out.kept hk7 hbq hrq hpq
    have HK7 := hid (Lib.OthersKept.trans HK6.out hk7)
    have HB7 := hid (HB6.out.trans hb7)
    have HI7 := hid hi7
    have H7 := hid h7
    clear c0 c2
    have c0 := h7.1.at_ 0 (v := .slice (some ⟨rb, 0, none⟩) 1 c) rfl
    have d0 := h7.2.1.at_ 0 (v := .iface 156 (.pointer (some ⟨pb, 0, none⟩))) rfl
    clear h7 hi7 hb7 hk7 HK6 HB6 HI6 H6
    go_wp2_with fail
    refine wp_loop_rounds 2 ?_
    rw [rounds_succ]
    go_wp2_with fail
    refine (plainHTML_any B q pb _ t w7 H7.out.2.2 HI7.out (Nat.le_trans hB HB7.out.size) (by omega) (by simp; omega)).mono ?_
    rintro e w8 ⟨rfl, hi8, hb8, hk8⟩
    have HK8 := hid (Lib.OthersKept.trans HK7.out hk8)
    have HB8 := hid (HB7.out.trans hb8)
    have HI8 := hid hi8
    clear hi8 hb8 hk8 HK7 HB7 HI7 H7
    go_wp2_with fail
    rw [rounds_succ]
    go_wp2_with fail
    refine (write_str B q _ ⟨#[60, 47, 97, 62]⟩ w8 HI8.out (Nat.le_trans hB HB8.out.size) (by have : (ByteArray.mk #[60, 47, 97, 62]).size = 4 := rfl; simp; omega)).mono ?_
    rintro e w9 ⟨rfl, hi9, hb9, hk9⟩
    have HK9 := hid (Lib.OthersKept.trans HK8.out hk9)
    have HB9 := hid (HB8.out.trans hb9)
    have HI9 := hid hi9
    clear hi9 hb9 hk9
    go_wp2_with fail
    go_end0
    refine ⟨rfl, ?_, HB9.out, HK9.out⟩
    have := HI9.out
    unfold linkOut
    simpa [List.append_assoc] using this
@[reducible] def plV (b : Nat) : Value := .iface 156 (.pointer (some ⟨b, 0, none⟩))
@[reducible] def lkV (b : Nat) : Value := .iface 140 (.pointer (some ⟨b, 0, none⟩))
theorem link_item {B : Nat} {w : World} {b rb pb c : Nat} {t u : ByteArray} (h : IsLink1 w b rb pb c t u) (h1 : B ≤ b) (h2 : B ≤ rb) (h3 : B ≤ pb) (ht : t.size ≤ 10000) (hu : u.size ≤ 10000) (hq : ∀ i, i < u.size → Plainly (bt u i)) : ItemS B w (lkV b) (linkOut u.data.toList t.data.toList) := by
  refine ⟨fun k => k = b ∨ k = rb ∨ k = pb, fun k hk => ?_, fun w' S hm hn q bs hq' => ?_⟩
  · rcases hk with rfl | rfl | rfl
    · exact ⟨h1, _, _, h.1, by decide, by decide⟩
    · exact ⟨h2, _, _, h.2.1, by decide, by decide⟩
    · exact ⟨h3, _, _, h.2.2, by decide, by decide⟩
  · have h' := h.mod hm (hn b (.inl rfl)) (hn rb (.inr (.inl rfl))) (hn pb (.inr (.inr rfl)))
    refine ⟨_, _, 261, .pointer (some ⟨b, 0, none⟩), rfl, fun W => by kernel_rfl, Go.Proofs.enters_of Tryz.func261 (by kernel_rfl) rfl, fun B' W hk hbf hB hlen => ?_⟩
    have l1 := h'.1.lt
    have l2 := h'.2.1.lt
    have l3 := h'.2.2.lt
    have e1 : u.data.toList.length = u.size := (Lib.size_eq u).symm
    refine linkHTML_any B' q b rb pb c bs t u W (h'.kept hk (by omega) (by omega) (by omega)) (by omega) (by omega) (by omega) hbf hB ht hu ?_ hq
    unfold linkOut at hlen
    simp only [List.length_append, List.length_cons, List.length_nil] at hlen
    omega
/-- A plain text, as an item. -/
theorem plain_item {B : Nat} {w : World} {b : Nat} {t : ByteArray} (h : Blk w b 137 #[.string t]) (h1 : B ≤ b) (ht : t.size ≤ 100000) : ItemS B w (plV b) (esc t.data.toList) := by
  have e : t = ⟨t.data.toList.toArray⟩ := ByteArray.ext Array.toArray_toList.symm
  refine ItemS.of (k := plainK t.data.toList) ⟨b, rfl, ?_, h1⟩ (plainK_ok _) (plain_kprints _ (by rw [← Lib.size_eq]; exact ht))
  show Blk w b 137 #[.string ⟨t.data.toList.toArray⟩]
  rw [← e]
  exact h
end Go.Proofs.YtmmijmhdbpldpaaGreatDoor
/- parseAutoEmail: an address of electronic mail among words. -/



namespace Go.Proofs.YtmmijmhdbpldpaaGreatDoor
open Go.RowKit
/-- A letter or digit of the laws' words. -/
def LD (z : Int) : Prop := z = 97 ∨ z = 98 ∨ z = 122 ∨ z = 48 ∨ z = 49 ∨ z = 57
theorem isLDH_yes (z : Int) (w : World) (h : LD z) : Calls Tryz.prog 185 #[.int .u8 z] w fun e w' => e = .returned (.bool true) ∧ w' = w := by
  have HL : ∀ z : Int, LD z → ∀ W, Calls Tryz.prog 130 #[.int .u8 z] W fun e w' => e = .returned (.bool true) ∧ w' = W := by
    intro z h W
    rcases h with rfl | rfl | rfl | rfl | rfl | rfl <;>
    · go_enter Tryz.func130, Tryz.ntmps130
      go_wp2_with fail
      go_ret
      exact ⟨rfl, rfl⟩
  have H := hid (HL z h)
  clear HL h
  go_enter Tryz.func185, Tryz.ntmps185
  go_wp2_with fail
  refine (H.out _).mono ?_
  rintro e w1 ⟨rfl, rfl⟩
  go_wp2_with fail
  go_ret
  exact ⟨rfl, rfl⟩
theorem isLDH_no (z : Int) (w : World) (h : z = 32 ∨ z = 46 ∨ z = 64) : Calls Tryz.prog 185 #[.int .u8 z] w fun e w' => e = .returned (.bool false) ∧ w' = w := by
  have HL : ∀ z : Int, (z = 32 ∨ z = 46 ∨ z = 64) → ∀ W, Calls Tryz.prog 130 #[.int .u8 z] W fun e w' => e = .returned (.bool false) ∧ w' = W := by
    intro z h W
    rcases h with rfl | rfl | rfl <;>
    · go_enter Tryz.func130, Tryz.ntmps130
      go_wp2_with fail
      go_ret
      exact ⟨rfl, rfl⟩
  have H := hid (HL z h)
  have h45 : (z == 45) = false := by rcases h with rfl | rfl | rfl <;> rfl
  clear HL h
  go_enter Tryz.func185, Tryz.ntmps185
  go_wp2_with fail
  refine (H.out _).mono ?_
  rintro e w1 ⟨rfl, rfl⟩
  go_wp2_with fail
  go_ret
  exact ⟨rfl, rfl⟩
theorem LD.ne {z : Int} (h : LD z) : (z == 95) = false ∧ (z == 43) = false ∧ (z == 46) = false ∧ (z == 45) = false := by
  rcases h with rfl | rfl | rfl | rfl | rfl | rfl <;> exact ⟨rfl, rfl, rfl, rfl⟩
/-- Where the parts of an address stand in a text. -/
structure MailAt (s : ByteArray) (j i d k : Nat) : Prop where
  size : s.size ≤ 100000
  j0 : 0 < j
  ji : j < i
  id : i + 1 < d
  dk : d + 1 < k
  ks : k < s.size
  bj : bt s (j - 1) = 32
  bi : bt s i = 64
  bd : bt s d = 46
  bk : bt s k = 32
  name : ∀ m, j ≤ m → m < i → LD (bt s m)
  host : ∀ m, i < m → m < d → LD (bt s m)
  end_ : ∀ m, d < m → m < k → LD (bt s m)
def mailURL (s : ByteArray) (j k : Nat) : ByteArray := ⟨#[109, 97, 105, 108, 116, 111, 58]⟩ ++ s.extract j k
theorem link_made (w : World) (t u : ByteArray) :
    IsLink1 (World.drew (((w.alloc (.cells #[.string t] 137)).alloc (.cells #[.iface 156 (.pointer (some ⟨w.heap.size, 0, none⟩))] 132)).alloc (.cells #[.slice (some ⟨w.heap.size + 1, 0, none⟩) 1 1, .string u, .string ⟨#[]⟩, .int .u8 0, .bool false] 144))) (w.heap.size + 1 + 1) (w.heap.size + 1) w.heap.size 1 t u ∧
    Below w.heap.size w (World.drew (((w.alloc (.cells #[.string t] 137)).alloc (.cells #[.iface 156 (.pointer (some ⟨w.heap.size, 0, none⟩))] 132)).alloc (.cells #[.slice (some ⟨w.heap.size + 1, 0, none⟩) 1 1, .string u, .string ⟨#[]⟩, .int .u8 0, .bool false] 144))) := by
  refine ⟨⟨?_, ?_, ?_⟩, ?_⟩
  · exact Blk.drewN (Blk.new' (by simp)) 1
  · exact Blk.drewN (Blk.alloc (Blk.new' (by simp)) _) 1
  · exact Blk.drewN (Blk.alloc (Blk.alloc (Blk.new _ _ _) _) _) 1
  · exact below_drewN ((((Below.refl _ w).alloc (Nat.le_refl _) _).alloc (by simp) _).alloc (by simp; omega) _) 1
set_option maxRecDepth 20000 in
set_option maxHeartbeats 8000000 in
theorem parseAutoEmail_yes (p : Value) (s : ByteArray) (j i d k : Nat) (w : World) (h : MailAt s j i d k) :
    Calls Tryz.prog 170 #[p, .string s, .int .i64 i] w fun e w' => ∃ b rb pb c, e = .returned (.tuple #[.string (s.extract 0 j), .pointer (some ⟨b, 0, none⟩), .string (s.extract k s.size), .bool true]) ∧ IsLink1 w' b rb pb c (s.extract j k) (mailURL s j k) ∧ w.heap.size ≤ b ∧ w.heap.size ≤ rb ∧ w.heap.size ≤ pb ∧ Below w.heap.size w w' := by
  obtain ⟨hs, j0, hji, hid1, hdk, hks, bj, bi, bd, bk, hn, hh, he⟩ := h
  have hb := get_bt s
  obtain ⟨j1, rfl⟩ : ∃ j1, j = j1 + 1 := ⟨j - 1, by omega⟩
  rw [Nat.add_sub_cancel] at bj
  obtain ⟨k1, rfl⟩ : ∃ k1, k = k1 + 1 := ⟨k - 1, by omega⟩
  have hl1 := (he k1 (by omega) (by omega)).ne
  obtain ⟨l95, _, l46, l45⟩ := hl1
  have e64 : (bt s i == 64) = true := by simpa using bi
  have e64' : (bt s i != 64) = false := by simp [bne, e64]
  have j95 : (bt s j1 == 95) = false := by rw [bj]; rfl
  have j43 : (bt s j1 == 43) = false := by rw [bj]; rfl
  have j46 : (bt s j1 == 46) = false := by rw [bj]; rfl
  have d95 : (bt s d == 95) = false := by rw [bd]; rfl
  have d46 : (bt s d == 46) = true := by rw [bd]; rfl
  have k95 : (bt s (k1 + 1) == 95) = false := by rw [bk]; rfl
  have k46 : (bt s (k1 + 1) == 46) = false := by rw [bk]; rfl
  have HN := hid hn
  have HH := hid hh
  have HE := hid he
  have HJN := hid (fun W => isLDH_no (bt s j1) W (.inl bj))
  have HDN := hid (fun W => isLDH_no (bt s d) W (.inr (.inl bd)))
  have HKN := hid (fun W => isLDH_no (bt s (k1 + 1)) W (.inl bk))
  clear hn hh he bj bi bd bk
  go_enter Tryz.func170, Tryz.ntmps170
  go_wp2_with fail
  go_loopw [10] (fun t10 wr => ∃ m : Nat, t10 = .int .i64 m ∧ j1 + 1 ≤ m ∧ m ≤ i ∧ wr = w) (fun t10 _ => (intOf t10).toNat)
  case atStart => exact ⟨i, rfl, by omega, Nat.le_refl _, rfl⟩
  case round =>
    obtain ⟨m, rfl, hm1, hm2, rfl⟩ := hrel
    obtain ⟨q, rfl⟩ : ∃ q, m = q + 1 := ⟨m - 1, by omega⟩
    by_cases hlt : j1 < q
    · have hz := HN.out q (by omega) (by omega)
      have HZ := hid (isLDH_yes (bt s q) wr hz)
      clear hz
      go_wp2_with fail
      refine HZ.out.mono ?_
      rintro e w1 ⟨rfl, rfl⟩
      go_wp2_with fail
      go_roundw
      case rel => exact ⟨q, by go_num, by omega, by omega, trivial⟩
      case measure => simp [intOf]
    · obtain rfl : q = j1 := by omega
      go_wp2_with fail
      refine (HJN.out _).mono ?_
      rintro e w1 ⟨rfl, rfl⟩
      go_wp2_with fail
      go_loopw [11, 12] (fun t11 t12 wr => ∃ m : Nat, t12 = .int .i64 m ∧ i + 1 ≤ m ∧ m ≤ k1 + 1 ∧ wr = w1 ∧ ((t11 = .int .i64 0 ∧ m ≤ d) ∨ (t11 = .int .i64 1 ∧ d < m))) (fun _ t12 _ => k1 + 2 - (intOf t12).toNat)
      case atStart => exact ⟨i + 1, by go_num, Nat.le_refl _, by omega, rfl, .inl ⟨rfl, by omega⟩⟩
      case round =>
        obtain ⟨m, rfl, hm1, hm2, rfl, hm3⟩ := hrel
        rcases hm3 with ⟨rfl, hm3⟩ | ⟨rfl, hm3⟩
        · by_cases hlt2 : m < d
          · have hz := HH.out m (by omega) hlt2
            have z46 := hz.ne.2.2.1
            have HZ := hid (isLDH_yes (bt s m) wr hz)
            clear hz
            go_wp2_with fail
            refine HZ.out.mono ?_
            rintro e w1 ⟨rfl, rfl⟩
            go_wp2_with fail
            go_roundw
            case rel => exact ⟨m + 1, by go_num, by omega, by omega, trivial, .inl ⟨rfl, by omega⟩⟩
            case measure => simp [intOf]; omega
          · obtain rfl : m = d := by omega
            obtain ⟨m1, rfl⟩ : ∃ m1, m = m1 + 1 := ⟨m - 1, by omega⟩
            have p46 := (HH.out m1 (by omega) (by omega)).ne.2.2.1
            go_wp2_with fail
            refine (HDN.out _).mono ?_
            rintro e w1 ⟨rfl, rfl⟩
            go_wp2_with fail
            go_roundw
            case rel => exact ⟨m1 + 2, by go_num, by omega, by omega, trivial, .inr ⟨rfl, by omega⟩⟩
            case measure => simp [intOf]; omega
        · by_cases hlt2 : m < k1 + 1
          · have hz := HE.out m (by omega) hlt2
            have z46 := hz.ne.2.2.1
            have HZ := hid (isLDH_yes (bt s m) wr hz)
            clear hz
            go_wp2_with fail
            refine HZ.out.mono ?_
            rintro e w1 ⟨rfl, rfl⟩
            go_wp2_with fail
            go_roundw
            case rel => exact ⟨m + 1, by go_num, by omega, by omega, trivial, .inr ⟨rfl, by omega⟩⟩
            case measure => simp [intOf]; omega
          · obtain rfl : m = k1 + 1 := by omega
            go_wp2_with fail
            refine (HKN.out _).mono ?_
            rintro e w1 ⟨rfl, rfl⟩
            go_wp2_with fail
            clear HN HH HE HJN HDN HKN hb e64 e64' j95 j43 j46 d95 d46 k95 k46 l95 l46 l45
            go_region
            have hL := hid (link_made w1 (s.extract (q + 1) (k1 + 1)) (mailURL s (q + 1) (k1 + 1)))
            unfold mailURL at hL
            generalize hW : (World.drew _) = w2 at hL ⊢
            clear hW
            go_wp2_with fail
            go_quiet (fail)
            go_wp2_with fail
            refine bodyPost_ret (by simp [results, Tryz.results170, go_sem]; try rfl) rfl ?_
            obtain ⟨⟨q1, q2, q3⟩, q4⟩ := hL.out
            exact ⟨w1.heap.size + 1 + 1, w1.heap.size + 1, w1.heap.size, 1, rfl, ⟨q1.drewN nq, q2.drewN nq, q3.drewN nq⟩, by omega, by omega, Nat.le_refl _, below_drewN q4 nq⟩
end Go.Proofs.YtmmijmhdbpldpaaGreatDoor
