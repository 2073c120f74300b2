/- What every law's row has in common: the arguments read behind the call as they did; a slice of bytes as a list. -/
import Derived.Test.YtmcjhcfhglfmlaaGreatDoorBase
import Derived.Test.YtmcjhcfhglfmlaaGreatDoorProg
import Derived.Carry
import Derived.ChangeSame
import Derived.Deep.OwnShut
import Derived.Deep.DeepHandedRow
import Derived.Deep.DeepWitnessRowRef
import Derived.Lib.LaidIn
import Derived.ProofKit
import Derived.OpenShut
import Derived.SizedLaws
import Derived.ChangeSlices
namespace Go.Proofs.YtmcjhcfhglfmlaaGreatDoor
open Go.RowKit Go.ChangeShapes Go.WideShapes Go.ChangeAt
/-- A slice whose cells are the bytes l. -/
def BytesAt (w : World) (A : Option Addr) (l : List UInt8) : Prop :=
  ∀ j (h : j < l.length), ∃ ad, A = some ad ∧ ad.block < w.heap.size ∧ w.cell? (ad.add j) = some (.int .u8 (l[j].toNat : Int))
theorem addr_block (a : Addr) (i : Nat) : (a.add i).block = a.block := by unfold Addr.add; split <;> rfl
theorem BytesAt.below {w w' : World} {A : Option Addr} {l : List UInt8} (h : BytesAt w A l) (hb : Below w.heap.size w w') : BytesAt w' A l := fun j hj => by
  obtain ⟨ad, e, hlt, hc⟩ := h j hj
  exact ⟨ad, e, Nat.lt_of_lt_of_le hlt hb.size, (hb.cell (p := ad.add j) (by rw [addr_block]; exact hlt)).trans hc⟩
theorem laidOut : laidOutB Tryz.prog = true := by kernel_rfl
theorem own : ownKnob Tryz.prog.godebug = none := by kernel_rfl
section
variable {H : Type} {enc : TypeId × Value → H}
/-- All arguments at once: below the heap's old size nothing has turned. -/
theorem args_below {P : Program} (hl : laidOutB P = true) {W W' : World} (hb : Below W.heap.size W W') : ∀ {ts : List TypeId} {vs : List Value} {ds : List (DataW H)} {ps : List MemPlace},
    (∀ t ∈ ts, P.readableRec t = true ∧ t < P.types.size) → DataW.TrodAll enc P W 0 (fun _ => true) true ts vs ds ps → (∀ p ∈ ps, p.block < W.heap.size) → ∀ sp : Nat → Bool, (∀ p ∈ ps, sp p.block = true) → DataW.TrodAll enc P W' 0 sp true ts vs ds ps
  | [], [], [], _, _, h, _, sp, _ => by
    obtain ⟨_, _, rfl⟩ := trodAll_nil h
    exact trodAll_mk0
  | t :: ts, vs, ds, ps, ht, h, hlt, sp, hsp => by
    obtain ⟨v, vs', d, ds', p, q, rfl, rfl, rfl, h0, r⟩ := trodAll_cons h
    have h1 := ht t (List.mem_cons_self ..)
    exact trodAll_cons_mk (WideElems.Trod_stays hl h1.1 h1.2 h0 (fun x hx => hb.same (hlt x (List.mem_append_left _ hx))) (fun x hx => hsp x (List.mem_append_left _ hx)))
      (args_below hl hb (fun u hu => ht u (List.mem_cons_of_mem _ hu)) r (fun x hx => hlt x (List.mem_append_right _ hx)) sp (fun x hx => hsp x (List.mem_append_right _ hx)))
/-- A slice of bytes, nil or not, as a list. -/
theorem open_bytes {P : Program} {t e : TypeId} (ht : P.underlying t = some (.slice e)) (he : P.underlying e = some (.int .u8)) (hc : P.cellsOf e = 1) {W : World} {base : Nat} {v : Value} {d : DataW H} {ps : List MemPlace}
    (hval : Value.okWide P W .any base t v) (h : DataW.Trod enc P W 0 (fun _ => true) true t v d ps) : ∃ A l c, v = .slice A l.length c ∧ BytesAt W A l ∧ l.length ≤ maxLen := by
  obtain ⟨a0, len, cap, rfl⟩ := okWide_slice ht hval
  obtain ⟨fuel, hf⟩ := h
  rcases open_ints ht he hc hf with ⟨hcs, _⟩ | ⟨a, len', cap', zs, hcs, _, hl, hm, hz, _, hcell, hwz⟩
  · simp [Value.cells] at hcs
    obtain ⟨rfl, rfl, rfl⟩ := hcs
    exact ⟨none, [], 0, rfl, fun j hj => absurd hj (by simp), Nat.zero_le _⟩
  · simp [Value.cells] at hcs
    obtain ⟨rfl, rfl, rfl⟩ := hcs
    simp only [if_true] at hz
    have hll : ((zs.take len).map fun n => UInt8.ofNat n.toNat).length = len := by simp; omega
    refine ⟨some a, (zs.take len).map fun n => UInt8.ofNat n.toNat, cap, by rw [hll], fun j hj => ?_, by rw [hll]; omega⟩
    have hj' : j < len := by omega
    have hj2 : j < zs.length := by omega
    have h1 := hcell j hj2
    have h2 := hwz (zs[j]) (List.getElem_mem hj2)
    have h3 : 0 ≤ zs[j] ∧ zs[j] ≤ 255 := by simpa [Lit.wf, IntKind.min, IntKind.max, IntKind.bits, IntKind.signed] using h2
    have hb := World.block_lt_of_cell? W _ h1
    rw [addr_block] at hb
    refine ⟨a, rfl, hb, ?_⟩
    rw [h1]
    have e1 : zs.getD j 0 = zs[j] := by simp [List.getD, hj2]
    rw [e1]
    congr 2
    simp only [List.getElem_map, List.getElem_take]
    have h4 : (zs[j]).toNat < 256 := by omega
    rw [UInt8.toNat_ofNat_of_lt' (show (zs[j]).toNat < UInt8.size from h4)]
    omega
/-- The law's post from its walk: true is returned, and below the old heap nothing has turned. -/
theorem post_true {F : Func} {s : ChangeSpec} {W W' : World} {args : Array Value} {ds gs : List (DataW H)} {before : List MemPlace} {p q : List MemPlace}
    (hW : DataW.Whole enc Tryz.prog F.params.toList s.vars false W args.toList ds gs before) (hA : DataW.TrodAll enc Tryz.prog W 0 (fun _ => true) true F.params.toList args.toList ds p) (hq : before = p ++ q)
    (hv : s.vars = []) (hgs : gs = []) (hq0 : q = []) (hr : F.resultTypes = #[4]) (hfn : s.fn H ds = { results := [.lit (.bool true)], args := ds })
    (ht : ∀ t ∈ F.params.toList, Tryz.prog.readableRec t = true ∧ t < Tryz.prog.types.size) (hb : Below W.heap.size W W') : s.post enc Tryz.prog F false true false false W args (.bool true) W' := by
  subst hgs hq0
  rw [List.append_nil] at hq
  subst hq
  have hlt : ∀ x ∈ before, x.block < W.heap.size := fun x hx => hW.lt x hx
  refine ⟨ds, [], before, [], before, [], hW, ?_, ?_, ?_, hb.frame _, fun h => by cases h⟩
  · rw [List.append_nil, hfn, hr]
    exact trodAll_mk1 (shut_bool Tryz.underlying4 _)
  · rw [List.append_nil, hfn]
    exact args_below laidOut hb ht hA hlt _ (fun x hx => by simpa using hlt x hx)
  · rw [List.append_nil, hfn, hv]
    rfl
end
end Go.Proofs.YtmcjhcfhglfmlaaGreatDoor
