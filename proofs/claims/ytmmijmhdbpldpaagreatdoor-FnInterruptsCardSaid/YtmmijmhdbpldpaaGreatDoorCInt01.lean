/- Texts of this proof, joined: Plain lemmas on numbers, lists, strings and memory, over no program in particular, What every law's row has in common: the arguments read behind the call as they did; a slice of bytes as a list, What a parseState and its stack hold. -/
import Derived.WalkKit
import Derived.Handy
import Derived.WalkSpells
import Derived.WalkLawsBesides
import Derived.Deep.QuietTactic
import Derived.BigQuiet
import Derived.Lib.Strings
import Derived.Maps.AppendAt
import Derived.Deep.RegionHeld3
import Derived.Deep.RegionWith
import Derived.Deep.DeepCutAuto
import Derived.Deep.CutBlock
import Derived.Test.YtmmijmhdbpldpaaGreatDoorProg
import Derived.Carry
import Derived.ChangeSame
import Derived.Deep.OwnShut
import Derived.Deep.DeepHandedRow
import Derived.Deep.DeepWitnessRowRef
import Derived.Lib.LaidIn
import Derived.ProofKit
import Derived.OpenShut
import Derived.SizedLaws
import Derived.ChangeSlices
/- Plain lemmas on numbers, lists, strings and memory, over no program in particular. -/












namespace Go.Proofs.YtmmijmhdbpldpaaGreatDoor
open Go.RowKit
def bt (s : ByteArray) (k : Nat) : Int := if h : k < s.size then ((s[k]'h).toNat : Int) else 0
theorem get_bt (s : ByteArray) : ∀ (n : Nat) (h : n < s.size), ((s[n]'h).toNat : Int) = bt s n := fun n h => by unfold bt; rw [dif_pos h]
theorem hid {p : Prop} (h : p) : Hid p := h
theorem ret_int {k : IntKind} {a b : Int} (h : a = b) : Ending.returned (.int k a) = .returned (.int k b) := by rw [h]
theorem ret_bool {a b : Bool} (h : a = b) : Ending.returned (.bool a) = .returned (.bool b) := by rw [h]
theorem ret_str {a b : ByteArray} (h : a = b) : Ending.returned (.string a) = .returned (.string b) := by rw [h]
theorem quiet_add_left {P : Program} {f : FuncId} {args : Array Value} {w : World} {a n : Nat} {v : Value}
    (h : Calls P f args (w.drewN (a + n)) fun e w' => e = .returned v ∧ w.drewN (a + n) = w') :
    Calls P f args (w.drewN (a + n)) fun e w'' => e = .returned v ∧ ∃ m, w'' = w.drewN (a + m) :=
  h.mono fun _ _ ⟨he, hm⟩ => ⟨he, n, hm.symm⟩
theorem quiet_left {P : Program} {f : FuncId} {args : Array Value} {w : World} {n : Nat} {v : Value}
    (h : Calls P f args (w.drewN n) fun e w' => e = .returned v ∧ w.drewN n = w') : Calls P f args (w.drewN n) fun e w'' => e = .returned v ∧ ∃ m, w'' = w.drewN m :=
  h.mono fun _ _ ⟨he, hm⟩ => ⟨he, n, hm.symm⟩
/-- Blocks outside S that were there are as they were; nothing has gone. -/
structure Mod (S : Nat → Prop) (w w' : World) : Prop where
  os : w'.os = w.os
  tape : w'.tape = w.tape
  output : w'.output = w.output
  size : w.heap.size ≤ w'.heap.size
  block : ∀ k, k < w.heap.size → ¬ S k → w'.heap[k]? = w.heap[k]?

namespace Mod
variable {S S' : Nat → Prop} {a b c w w' : World}
theorem refl (S : Nat → Prop) (w : World) : Mod S w w := ⟨rfl, rfl, rfl, Nat.le_refl _, fun _ _ _ => rfl⟩
theorem trans (h : Mod S a b) (h' : Mod S' b c) (hs : ∀ k, k < a.heap.size → S' k → S k) : Mod S a c :=
  ⟨h'.os.trans h.os, h'.tape.trans h.tape, h'.output.trans h.output, Nat.le_trans h.size h'.size,
    fun k hk hn => (h'.block k (Nat.lt_of_lt_of_le hk h.size) (fun x => hn (hs k hk x))).trans (h.block k hk hn)⟩
theorem mono (h : Mod S a b) (hs : ∀ k, k < a.heap.size → S k → S' k) : Mod S' a b := ⟨h.os, h.tape, h.output, h.size, fun k hk hn => h.block k hk (fun x => hn (hs k hk x))⟩
theorem below {B : Nat} (h : Below B a b) (hB : ∀ k, k < a.heap.size → B ≤ k → S k) : Mod S a b :=
  ⟨h.os, h.tape, h.output, h.size, fun k hk hn => h.block k (Nat.lt_of_not_le fun x => hn (hB k hk x))⟩
theorem below' (h : Below a.heap.size a b) : Mod S a b := below h (fun k h1 h2 => by omega)
theorem toBelow {B : Nat} (h : Mod S a b) (hB : B ≤ a.heap.size) (hs : ∀ k, k < B → ¬ S k) : Below B a b :=
  ⟨h.os, h.tape, h.output, h.size, fun k hk => h.block k (by omega) (hs k hk)⟩
theorem alloc (h : Mod S a w) (o : Obj) : Mod S a (w.alloc o) := h.trans (S' := fun _ => False) (below' ((Below.refl _ _).alloc (Nat.le_refl _) o)) (fun _ _ x => x.elim)
theorem drew (h : Mod S a w) : Mod S a w.drew := ⟨h.os, h.tape, h.output, h.size, h.block⟩
theorem drewN (h : Mod S a w) (n : Nat) : Mod S a (w.drewN n) := ⟨h.os, h.tape, h.output, h.size, h.block⟩
theorem setCell (h : Mod S a w) {p : Addr} (hp : S p.block ∨ a.heap.size ≤ p.block) (u : Value) : Mod S a (w.setCell p u) :=
  h.trans (S' := fun k => k = p.block) ⟨rfl, rfl, rfl, by simp [World.setCell], fun k _ hn => Below.heap_setCell _ _ _ _ hn⟩ (fun k hk e => by subst e; rcases hp with h | h; exact h; omega)
theorem grown (h : Mod S a w) {row : Option Nat} (hg : w.grownBy w' row) (hr : ∀ k, row = some k → S k ∨ a.heap.size ≤ k) : Mod S a w' :=
  h.trans (S' := fun k => some k = row) ⟨hg.os, hg.tape, hg.output, hg.size, fun k hk hn => hg.block k hk hn⟩ (fun k hk e => by rcases hr k e.symm with h | h; exact h; omega)
theorem cell (h : Mod S w w') {p : Addr} (hp : p.block < w.heap.size) (hn : ¬ S p.block) : w'.cell? p = w.cell? p := World.cell?_of_block (w := w) (h.block p.block hp hn)
theorem frozen (h : Mod S w w') {p : Addr} (hp : p.block < w.heap.size) (hn : ¬ S p.block) : w'.frozen? p = w.frozen? p := World.frozen?_of_block (w := w) (h.block p.block hp hn)
end Mod

/-- A block known whole. -/
def Blk (w : World) (g : Nat) (t : TypeId) (cs : Array Value) : Prop := w.heap[g]? = some (.cells cs t (0, 0))
namespace Blk
variable {w w' : World} {g : Nat} {t : TypeId} {cs : Array Value} {S : Nat → Prop}
theorem lt (h : Blk w g t cs) : g < w.heap.size := by
  rcases Nat.lt_or_ge g w.heap.size with hlt | hge
  · exact hlt
  · unfold Blk at h; rw [Array.getElem?_eq_none hge] at h; cases h
theorem cell (h : Blk w g t cs) (i : Nat) : w.cell? ⟨g, i, none⟩ = cs[i]? := cell_of_row w g i cs t (0, 0) h
theorem at_ (h : Blk w g t cs) (i : Nat) {v : Value} (e : cs[i]? = some v) : w.cell? ⟨g, i, none⟩ = some v := (h.cell i).trans e
theorem free (h : Blk w g t cs) (i : Nat) : w.frozen? ⟨g, i, none⟩ = false := by
  unfold Blk at h
  simp [World.frozen?, h]
theorem new (w : World) (t : TypeId) (cs : Array Value) : Blk (w.alloc (.cells cs t)) w.heap.size t cs := heap_alloc_new w _
theorem new' {w : World} {n : Nat} {t : TypeId} {cs : Array Value} (h : n = w.heap.size) : Blk (w.alloc (.cells cs t)) n t cs := by subst h; exact Blk.new w t cs
theorem drew (h : Blk w g t cs) : Blk w.drew g t cs := h
theorem drewN (h : Blk w g t cs) (n : Nat) : Blk (w.drewN n) g t cs := h
theorem alloc (h : Blk w g t cs) (o : Obj) : Blk (w.alloc o) g t cs := (Below.heap_alloc w o g h.lt).trans h
theorem set_ (h : Blk w g t cs) (i : Nat) (u : Value) : Blk (w.setCell ⟨g, i, none⟩ u) g t (cs.setIfInBounds i u) := by
  unfold Blk at h ⊢
  simp [World.setCell, Array.getElem?_modify, h]
theorem far (h : Blk w g t cs) {p : Addr} (hp : g ≠ p.block) (u : Value) : Blk (w.setCell p u) g t cs := (Below.heap_setCell w p u g hp).trans h
theorem mod (h : Blk w g t cs) (hm : Mod S w w') (hn : ¬ S g) : Blk w' g t cs := (hm.block g h.lt hn).trans h
theorem ne_ {g' : Nat} {t' : TypeId} {cs' : Array Value} (h : Blk w g t cs) (h' : Blk w g' t' cs') (hne : t ≠ t') : g ≠ g' := by
  rintro rfl
  unfold Blk at h h'
  rw [h] at h'
  injection h' with h'
  injection h' with _ ht
  exact hne ht
end Blk
theorem own_ne {w : World} {base : Nat} {e : TypeId} {size n : Nat} {v : Value} {xs : List Value} {g : Nat} {t : TypeId} {cs : Array Value} (h : w.ownsRow base e size v n xs) (hg : Blk w g t cs) (hne : e ≠ t) : some g ≠ v.ownBlock := by
  rcases h.2 with ⟨rfl, _⟩ | ⟨g', cap, cur, rfl, _, hh, _⟩
  · simp [Value.ownBlock]
  · intro he
    have : g' = g := by simpa [Value.ownBlock] using he.symm
    subst this
    exact Blk.ne_ (t := e) hh hg hne rfl
theorem own_mod {w w' : World} {base : Nat} {e : TypeId} {size n : Nat} {v : Value} {xs : List Value} {S : Nat → Prop} (h : w.ownsRow base e size v n xs) (hm : Mod S w w') (hn : ∀ k, v.ownBlock = some k → ¬ S k) : w'.ownsRow base e size v n xs := by
  refine ⟨h.1, ?_⟩
  rcases h.2 with h0 | ⟨g', cap, cur, rfl, hb, hh, h1⟩
  · exact .inl h0
  · exact .inr ⟨g', cap, cur, rfl, hb, (hm.block g' (Blk.lt hh) (hn g' rfl)).trans hh, h1⟩
theorem Blk.grown {w w' : World} {g : Nat} {t : TypeId} {cs : Array Value} {row : Option Nat} (h : Blk w g t cs) (hb : w.grownBy w' row) (hg : some g ≠ row) : Blk w' g t cs := (hb.block g h.lt hg).trans h
theorem own_far {w : World} {base : Nat} {e : TypeId} {size n : Nat} {v : Value} {xs : List Value} (h : w.ownsRow base e size v n xs) {p : Addr} (hp : some p.block ≠ v.ownBlock) (u : Value) : (w.setCell p u).ownsRow base e size v n xs :=
  own_mod (S := fun k => k = p.block) h (Mod.setCell (S := fun k => k = p.block) (Mod.refl _ _) (.inl rfl) u) (fun k hk e => by subst e; exact hp hk.symm)
theorem World.ownsRow.drewN {w : World} {base : Nat} {e : TypeId} {size n : Nat} {v : Value} {xs : List Value} (h : w.ownsRow base e size v n xs) (k : Nat) : (w.drewN k).ownsRow base e size v n xs := h
def isST (c : UInt8) : Bool := c == 32 || c == 9
def trimL (l : List UInt8) : List UInt8 := l.dropWhile isST

theorem extract_end (s : ByteArray) (k : Nat) : s.extract k s.size = ⟨(s.data.toList.drop k).toArray⟩ := by
  rw [Lib.extract_eq, List.take_of_length_le (by rw [List.length_drop, ← Lib.size_eq]; omega)]

theorem drop_of_while (p : UInt8 → Bool) : ∀ (l : List UInt8) (k : Nat), (∀ j c, j < k → l[j]? = some c → p c = true) → (∀ c, l[k]? = some c → p c = false) → l.dropWhile p = l.drop k := by
  intro l
  induction l with
  | nil => intro k _ _; simp
  | cons a l ih =>
    intro k h1 h2
    cases k with
    | zero => have := h2 a rfl; simp [this]
    | succ k =>
      have := h1 0 a (by omega) rfl
      simp only [List.dropWhile_cons, this, if_true, List.drop_succ_cons]
      exact ih k (fun j c hj hc => h1 (j + 1) c (by omega) (by simpa using hc)) (fun c hc => h2 c (by simpa using hc))

theorem bt_at (s : ByteArray) {k : Nat} (h : k < s.size) : ∃ c, s.data.toList[k]? = some c ∧ bt s k = (c.toNat : Int) := by
  have hk : k < s.data.toList.length := by rw [← Lib.size_eq]; exact h
  refine ⟨_, List.getElem?_eq_getElem hk, ?_⟩
  unfold bt
  rw [dif_pos h]
  rfl

theorem isST_of {c : UInt8} (h : (c.toNat : Int) = 32 ∨ (c.toNat : Int) = 9) : isST c = true := by
  have : c = 32 ∨ c = 9 := by
    rcases h with h | h
    · exact .inl (UInt8.toNat_inj.1 (by simpa using (by omega : c.toNat = 32)))
    · exact .inr (UInt8.toNat_inj.1 (by simpa using (by omega : c.toNat = 9)))
  rcases this with rfl | rfl <;> decide

theorem isST_not {c : UInt8} (h1 : ¬ (c.toNat : Int) = 32) (h2 : ¬ (c.toNat : Int) = 9) : isST c = false := by
  have a1 : c ≠ 32 := fun h => by subst h; exact h1 rfl
  have a2 : c ≠ 9 := fun h => by subst h; exact h2 rfl
  simp [isST, a1, a2]

def idxB (c : UInt8) (l : List UInt8) : Int := match l.findIdx? (fun x => x == c) with
  | some k => (k : Int)
  | none => -1

theorem piece1 (s : ByteArray) (k : Nat) (c : UInt8) (h : k < s.size) : ((s.extract k (k + 1)).toList == [c]) = decide (s.data.toList[k]? = some c) := by
  rw [Lib.extract_toList, show k + 1 - k = 1 from by omega]
  have hk : k < s.data.toList.length := by rw [← Lib.size_eq]; exact h
  rw [List.getElem?_eq_getElem hk, List.drop_eq_getElem_cons hk, Bool.eq_iff_iff]
  simp

theorem idxB_at (l : List UInt8) (c : UInt8) (k : Nat) (h : ∀ j, j < k → l[j]? ≠ some c) (hk : l[k]? = some c) : idxB c l = k := by
  unfold idxB
  have hl : k < l.length := by
    rcases Nat.lt_or_ge k l.length with h1 | h1
    · exact h1
    · rw [List.getElem?_eq_none h1] at hk; cases hk
  have : l.findIdx? (fun x => x == c) = some k := by
    rw [List.findIdx?_eq_some_iff_getElem]
    refine ⟨hl, ?_, fun j hj => ?_⟩
    · rw [List.getElem?_eq_getElem hl] at hk; simpa using hk
    · have := h j hj; rw [List.getElem?_eq_getElem (by omega)] at this; simpa using this
  rw [this]

theorem idxB_none (l : List UInt8) (c : UInt8) (k : Nat) (h : ∀ j, j < k → l[j]? ≠ some c) (hk : l.length ≤ k) : idxB c l = -1 := by
  unfold idxB
  have : l.findIdx? (fun x => x == c) = none := by
    rw [List.findIdx?_eq_none_iff]
    intro x hx
    obtain ⟨j, hj, rfl⟩ := List.getElem_of_mem hx
    have := h j (by omega)
    rw [List.getElem?_eq_getElem hj] at this
    simpa using this
  rw [this]

/-- The next line of a text, what ends it (10, 13, both: 23; 0: the text's end), and what is left. -/
def nextLine (l : List UInt8) : List UInt8 × Nat × List UInt8 :=
  if 0 ≤ idxB 13 l ∧ (idxB 10 l < 0 ∨ idxB 13 l < idxB 10 l) then
    if idxB 10 l = idxB 13 l + 1 then (l.take (idxB 13 l).toNat, 23, l.drop ((idxB 13 l).toNat + 2)) else (l.take (idxB 13 l).toNat, 13, l.drop ((idxB 13 l).toNat + 1))
  else if 0 ≤ idxB 10 l then (l.take (idxB 10 l).toNat, 10, l.drop ((idxB 10 l).toNat + 1)) else (l, 0, [])

theorem idxB_lt (l : List UInt8) (c : UInt8) : -1 ≤ idxB c l ∧ idxB c l < l.length := by
  unfold idxB
  split
  · rename_i k hk
    rw [List.findIdx?_eq_some_iff_getElem] at hk
    obtain ⟨h, _⟩ := hk
    omega
  · omega

theorem nextLine_rest (l : List UInt8) (h : l ≠ []) : (nextLine l).2.2.length < l.length := by
  have h1 := idxB_lt l 10
  have h2 := idxB_lt l 13
  have h0 : 0 < l.length := List.length_pos_iff.2 h
  unfold nextLine
  split
  · split <;> simp only [List.length_drop] <;> omega
  · split
    · simp only [List.length_drop]; omega
    · simpa using h0

theorem bsz {l : List UInt8} {n : Nat} (h : l.length ≤ n) : (ByteArray.mk l.toArray).size ≤ n := by show l.toArray.size ≤ n; simpa using h
theorem ex_to (l : List UInt8) (j : Int) : (ByteArray.mk l.toArray).extract 0 j.toNat = ⟨(l.take j.toNat).toArray⟩ := by rw [ByteArray.extract_mk]; simp
theorem ex_from (l : List UInt8) (j : Nat) : (ByteArray.mk l.toArray).extract j l.length = ⟨(l.drop j).toArray⟩ := by rw [ByteArray.extract_mk, List.take_of_length_le (by rw [List.length_drop]; omega)]
theorem cut_end (l : List UInt8) : (ByteArray.mk l.toArray).extract 0 (ByteArray.mk l.toArray).size = ⟨l.toArray⟩ := by
  rw [extract_end]; simp


end Go.Proofs.YtmmijmhdbpldpaaGreatDoor
/- What every law's row has in common: the arguments read behind the call as they did; a slice of bytes as a list. -/












namespace Go.Proofs.YtmmijmhdbpldpaaGreatDoor
open Go.RowKit Go.ChangeShapes Go.WideShapes Go.ChangeAt
/-- A slice whose cells are the bytes l. -/
def BytesAt (w : World) (A : Option Addr) (l : List UInt8) : Prop :=
  ∀ j (h : j < l.length), ∃ ad, A = some ad ∧ ad.block < w.heap.size ∧ w.cell? (ad.add j) = some (.int .u8 (l[j].toNat : Int))
theorem addr_block (a : Addr) (i : Nat) : (a.add i).block = a.block := by unfold Addr.add; split <;> rfl
theorem BytesAt.below {w w' : World} {A : Option Addr} {l : List UInt8} (h : BytesAt w A l) (hb : Below w.heap.size w w') : BytesAt w' A l := fun j hj => by
  obtain ⟨ad, e, hlt, hc⟩ := h j hj
  exact ⟨ad, e, Nat.lt_of_lt_of_le hlt hb.size, (hb.cell (p := ad.add j) (by rw [addr_block]; exact hlt)).trans hc⟩
theorem laidOut : laidOutB Tryz.prog = true := by kernel_rfl
theorem own : ownKnob Tryz.prog.godebug = none := by kernel_rfl
section
variable {H : Type} {enc : TypeId × Value → H}
/-- All arguments at once: below the heap's old size nothing has turned. -/
theorem args_below {P : Program} (hl : laidOutB P = true) {W W' : World} (hb : Below W.heap.size W W') : ∀ {ts : List TypeId} {vs : List Value} {ds : List (DataW H)} {ps : List MemPlace},
    (∀ t ∈ ts, P.readableRec t = true ∧ t < P.types.size) → DataW.TrodAll enc P W 0 (fun _ => true) true ts vs ds ps → (∀ p ∈ ps, p.block < W.heap.size) → ∀ sp : Nat → Bool, (∀ p ∈ ps, sp p.block = true) → DataW.TrodAll enc P W' 0 sp true ts vs ds ps
  | [], [], [], _, _, h, _, sp, _ => by
    obtain ⟨_, _, rfl⟩ := trodAll_nil h
    exact trodAll_mk0
  | t :: ts, vs, ds, ps, ht, h, hlt, sp, hsp => by
    obtain ⟨v, vs', d, ds', p, q, rfl, rfl, rfl, h0, r⟩ := trodAll_cons h
    have h1 := ht t (List.mem_cons_self ..)
    exact trodAll_cons_mk (WideElems.Trod_stays hl h1.1 h1.2 h0 (fun x hx => hb.same (hlt x (List.mem_append_left _ hx))) (fun x hx => hsp x (List.mem_append_left _ hx)))
      (args_below hl hb (fun u hu => ht u (List.mem_cons_of_mem _ hu)) r (fun x hx => hlt x (List.mem_append_right _ hx)) sp (fun x hx => hsp x (List.mem_append_right _ hx)))
/-- A slice of bytes, nil or not, as a list. -/
theorem open_bytes {P : Program} {t e : TypeId} (ht : P.underlying t = some (.slice e)) (he : P.underlying e = some (.int .u8)) (hc : P.cellsOf e = 1) {W : World} {base : Nat} {v : Value} {d : DataW H} {ps : List MemPlace}
    (hval : Value.okWide P W .any base t v) (h : DataW.Trod enc P W 0 (fun _ => true) true t v d ps) : ∃ A l c, v = .slice A l.length c ∧ BytesAt W A l ∧ l.length ≤ maxLen := by
  obtain ⟨a0, len, cap, rfl⟩ := okWide_slice ht hval
  obtain ⟨fuel, hf⟩ := h
  rcases open_ints ht he hc hf with ⟨hcs, _⟩ | ⟨a, len', cap', zs, hcs, _, hl, hm, hz, _, hcell, hwz⟩
  · simp [Value.cells] at hcs
    obtain ⟨rfl, rfl, rfl⟩ := hcs
    exact ⟨none, [], 0, rfl, fun j hj => absurd hj (by simp), Nat.zero_le _⟩
  · simp [Value.cells] at hcs
    obtain ⟨rfl, rfl, rfl⟩ := hcs
    simp only [if_true] at hz
    have hll : ((zs.take len).map fun n => UInt8.ofNat n.toNat).length = len := by simp; omega
    refine ⟨some a, (zs.take len).map fun n => UInt8.ofNat n.toNat, cap, by rw [hll], fun j hj => ?_, by rw [hll]; omega⟩
    have hj' : j < len := by omega
    have hj2 : j < zs.length := by omega
    have h1 := hcell j hj2
    have h2 := hwz (zs[j]) (List.getElem_mem hj2)
    have h3 : 0 ≤ zs[j] ∧ zs[j] ≤ 255 := by simpa [Lit.wf, IntKind.min, IntKind.max, IntKind.bits, IntKind.signed] using h2
    have hb := World.block_lt_of_cell? W _ h1
    rw [addr_block] at hb
    refine ⟨a, rfl, hb, ?_⟩
    rw [h1]
    have e1 : zs.getD j 0 = zs[j] := by simp [List.getD, hj2]
    rw [e1]
    congr 2
    simp only [List.getElem_map, List.getElem_take]
    have h4 : (zs[j]).toNat < 256 := by omega
    rw [UInt8.toNat_ofNat_of_lt' (show (zs[j]).toNat < UInt8.size from h4)]
    omega
/-- The law's post from its walk: true is returned, and below the old heap nothing has turned. -/
theorem post_true {F : Func} {s : ChangeSpec} {W W' : World} {args : Array Value} {ds gs : List (DataW H)} {before : List MemPlace} {p q : List MemPlace}
    (hW : DataW.Whole enc Tryz.prog F.params.toList s.vars false W args.toList ds gs before) (hA : DataW.TrodAll enc Tryz.prog W 0 (fun _ => true) true F.params.toList args.toList ds p) (hq : before = p ++ q)
    (hv : s.vars = []) (hgs : gs = []) (hq0 : q = []) (hr : F.resultTypes = #[4]) (hfn : s.fn H ds = { results := [.lit (.bool true)], args := ds })
    (ht : ∀ t ∈ F.params.toList, Tryz.prog.readableRec t = true ∧ t < Tryz.prog.types.size) (hb : Below W.heap.size W W') : s.post enc Tryz.prog F false true false false W args (.bool true) W' := by
  subst hgs hq0
  rw [List.append_nil] at hq
  subst hq
  have hlt : ∀ x ∈ before, x.block < W.heap.size := fun x hx => hW.lt x hx
  refine ⟨ds, [], before, [], before, [], hW, ?_, ?_, ?_, hb.frame _, fun h => by cases h⟩
  · rw [List.append_nil, hfn, hr]
    exact trodAll_mk1 (shut_bool Tryz.underlying4 _)
  · rw [List.append_nil, hfn]
    exact args_below laidOut hb ht hA hlt _ (fun x hx => by simpa using hlt x hx)
  · rw [List.append_nil, hfn, hv]
    rfl
end
end Go.Proofs.YtmmijmhdbpldpaaGreatDoor
/- What a parseState and its stack hold. -/


namespace Go.Proofs.YtmmijmhdbpldpaaGreatDoor
open Go.RowKit
/-- A slice's value: where it begins, its length, its capacity. -/
structure Sl where
  a : Option Addr
  n : Nat
  c : Nat
@[reducible] def Sl.v (s : Sl) : Value := .slice s.a s.n s.c
def Sl.nil : Sl := ⟨none, 0, 0⟩
/-- What a parseState holds, field by field; 'back' are the cells of its last field. -/
structure PSr where
  parser : Nat
  root : Option Addr
  links : Option Nat
  lineno : Int
  stack : Sl
  lineDepth : Int
  corner : Bool
  s : ByteArray
  emitted : Int
  list : Sl
  lists : Sl
  texts : Sl
  back : List Value

def PSr.cells (r : PSr) : List Value := [.pointer (some ⟨r.parser, 0, none⟩), .pointer r.root, .map r.links, .int .i64 r.lineno, r.stack.v, .int .i64 r.lineDepth, .bool r.corner, .string r.s, .int .i64 r.emitted, r.list.v, r.lists.v, r.texts.v] ++ r.back
def IsPS (w : World) (g : Nat) (r : PSr) : Prop := Blk w g 95 r.cells.toArray
namespace IsPS
variable {w w' : World} {g : Nat} {r : PSr} {S : Nat → Prop}
theorem lt (h : IsPS w g r) : g < w.heap.size := Blk.lt h
theorem free (h : IsPS w g r) (i : Nat) : w.frozen? ⟨g, i, none⟩ = false := Blk.free h i
theorem c0 (h : IsPS w g r) : w.cell? ⟨g, 0, none⟩ = some (.pointer (some ⟨r.parser, 0, none⟩)) := by rw [Blk.cell h]; simp [PSr.cells]
theorem c1 (h : IsPS w g r) : w.cell? ⟨g, 1, none⟩ = some (.pointer r.root) := by rw [Blk.cell h]; simp [PSr.cells]
theorem c2 (h : IsPS w g r) : w.cell? ⟨g, 2, none⟩ = some (.map r.links) := by rw [Blk.cell h]; simp [PSr.cells]
theorem c3 (h : IsPS w g r) : w.cell? ⟨g, 3, none⟩ = some (.int .i64 r.lineno) := by rw [Blk.cell h]; simp [PSr.cells]
theorem c4 (h : IsPS w g r) : w.cell? ⟨g, 4, none⟩ = some (.slice r.stack.a r.stack.n r.stack.c) := by rw [Blk.cell h]; simp [PSr.cells]
theorem c5 (h : IsPS w g r) : w.cell? ⟨g, 5, none⟩ = some (.int .i64 r.lineDepth) := by rw [Blk.cell h]; simp [PSr.cells]
theorem c6 (h : IsPS w g r) : w.cell? ⟨g, 6, none⟩ = some (.bool r.corner) := by rw [Blk.cell h]; simp [PSr.cells]
theorem c7 (h : IsPS w g r) : w.cell? ⟨g, 7, none⟩ = some (.string r.s) := by rw [Blk.cell h]; simp [PSr.cells]
theorem c8 (h : IsPS w g r) : w.cell? ⟨g, 8, none⟩ = some (.int .i64 r.emitted) := by rw [Blk.cell h]; simp [PSr.cells]
theorem c9 (h : IsPS w g r) : w.cell? ⟨g, 9, none⟩ = some (.slice r.list.a r.list.n r.list.c) := by rw [Blk.cell h]; simp [PSr.cells]
theorem c10 (h : IsPS w g r) : w.cell? ⟨g, 10, none⟩ = some (.slice r.lists.a r.lists.n r.lists.c) := by rw [Blk.cell h]; simp [PSr.cells]
theorem c11 (h : IsPS w g r) : w.cell? ⟨g, 11, none⟩ = some (.slice r.texts.a r.texts.n r.texts.c) := by rw [Blk.cell h]; simp [PSr.cells]
theorem set1 (h : IsPS w g r) (v : Option Addr) : IsPS (w.setCell ⟨g, 1, none⟩ (.pointer v)) g { r with root := v } := by have := Blk.set_ h 1 (.pointer v); rw [List.setIfInBounds_toArray] at this; exact this
theorem set2 (h : IsPS w g r) (v : Option Nat) : IsPS (w.setCell ⟨g, 2, none⟩ (.map v)) g { r with links := v } := by have := Blk.set_ h 2 (.map v); rw [List.setIfInBounds_toArray] at this; exact this
theorem set3 (h : IsPS w g r) (v : Int) : IsPS (w.setCell ⟨g, 3, none⟩ (.int .i64 v)) g { r with lineno := v } := by have := Blk.set_ h 3 (.int .i64 v); rw [List.setIfInBounds_toArray] at this; exact this
theorem set4 (h : IsPS w g r) (a : Option Addr) (n c : Nat) : IsPS (w.setCell ⟨g, 4, none⟩ (.slice a n c)) g { r with stack := ⟨a, n, c⟩ } := by have := Blk.set_ h 4 (.slice a n c); rw [List.setIfInBounds_toArray] at this; exact this
theorem set5 (h : IsPS w g r) (v : Int) : IsPS (w.setCell ⟨g, 5, none⟩ (.int .i64 v)) g { r with lineDepth := v } := by have := Blk.set_ h 5 (.int .i64 v); rw [List.setIfInBounds_toArray] at this; exact this
theorem set6 (h : IsPS w g r) (v : Bool) : IsPS (w.setCell ⟨g, 6, none⟩ (.bool v)) g { r with corner := v } := by have := Blk.set_ h 6 (.bool v); rw [List.setIfInBounds_toArray] at this; exact this
theorem set7 (h : IsPS w g r) (v : ByteArray) : IsPS (w.setCell ⟨g, 7, none⟩ (.string v)) g { r with s := v } := by have := Blk.set_ h 7 (.string v); rw [List.setIfInBounds_toArray] at this; exact this
theorem set8 (h : IsPS w g r) (v : Int) : IsPS (w.setCell ⟨g, 8, none⟩ (.int .i64 v)) g { r with emitted := v } := by have := Blk.set_ h 8 (.int .i64 v); rw [List.setIfInBounds_toArray] at this; exact this
theorem set9 (h : IsPS w g r) (a : Option Addr) (n c : Nat) : IsPS (w.setCell ⟨g, 9, none⟩ (.slice a n c)) g { r with list := ⟨a, n, c⟩ } := by have := Blk.set_ h 9 (.slice a n c); rw [List.setIfInBounds_toArray] at this; exact this
theorem set10 (h : IsPS w g r) (a : Option Addr) (n c : Nat) : IsPS (w.setCell ⟨g, 10, none⟩ (.slice a n c)) g { r with lists := ⟨a, n, c⟩ } := by have := Blk.set_ h 10 (.slice a n c); rw [List.setIfInBounds_toArray] at this; exact this
theorem set11 (h : IsPS w g r) (a : Option Addr) (n c : Nat) : IsPS (w.setCell ⟨g, 11, none⟩ (.slice a n c)) g { r with texts := ⟨a, n, c⟩ } := by have := Blk.set_ h 11 (.slice a n c); rw [List.setIfInBounds_toArray] at this; exact this
theorem drew (h : IsPS w g r) : IsPS w.drew g r := h
theorem drewN (h : IsPS w g r) (n : Nat) : IsPS (w.drewN n) g r := h
theorem alloc (h : IsPS w g r) (o : Obj) : IsPS (w.alloc o) g r := Blk.alloc h o
theorem far (h : IsPS w g r) {p : Addr} (hp : g ≠ p.block) (u : Value) : IsPS (w.setCell p u) g r := Blk.far h hp u
theorem mod (h : IsPS w g r) (hm : Mod S w w') (hn : ¬ S g) : IsPS w' g r := Blk.mod h hm hn
theorem below (h : IsPS w g r) (hb : Below w.heap.size w w') : IsPS w' g r := h.mod (S := fun _ => False) (Mod.below' hb) (fun x => x)
end IsPS

/-- An open block, as it lies in the stack. -/
structure Ent where
  bt : TypeId
  bv : Value
  inner : Sl
  sl : Int
  el : Int
def Ent.cells (e : Ent) : List Value := [.iface e.bt e.bv, e.inner.v, .int .i64 e.sl, .int .i64 e.el]
def IsStack (w : World) (B : Nat) (s : Sl) (es : List Ent) : Prop := s.n = es.length ∧ w.ownsRow B 121 4 s.v es.length (es.flatMap Ent.cells)
theorem ents_len (es : List Ent) : (es.flatMap Ent.cells).length = es.length * 4 := by
  induction es with
  | nil => rfl
  | cons a l ih =>
    rw [List.flatMap_cons, List.length_append, List.length_cons, ih]
    have : a.cells.length = 4 := rfl
    omega
namespace IsStack
variable {w w' : World} {B : Nat} {s : Sl} {es : List Ent} {S : Nat → Prop}
theorem mod (h : IsStack w B s es) (hm : Mod S w w') (hn : ∀ k, s.v.ownBlock = some k → ¬ S k) : IsStack w' B s es := ⟨h.1, own_mod h.2 hm hn⟩
theorem below (h : IsStack w B s es) (hb : Below w.heap.size w w') : IsStack w' B s es := h.mod (S := fun _ => False) (Mod.below' hb) (fun _ _ x => x)
theorem drewN (h : IsStack w B s es) (n : Nat) : IsStack (w.drewN n) B s es := h
theorem drew (h : IsStack w B s es) : IsStack w.drew B s es := h
theorem alloc (h : IsStack w B s es) (o : Obj) : IsStack (w.alloc o) B s es := h.below ((Below.refl _ _).alloc (Nat.le_refl _) o)
theorem far (h : IsStack w B s es) {p : Addr} (hp : some p.block ≠ s.v.ownBlock) (u : Value) : IsStack (w.setCell p u) B s es := ⟨h.1, own_far h.2 hp u⟩
/-- The stack with a last entry: where it lies, and the entry's cells. -/
theorem top {e : Ent} (h : IsStack w B s (es ++ [e])) :
    ∃ sb cap, s = ⟨some ⟨sb, 0, none⟩, es.length + 1, cap⟩ ∧ es.length + 1 ≤ cap ∧ (∀ j, w.frozen? ⟨sb, j, none⟩ = false) ∧ s.v.ownBlock = some sb ∧ sb < w.heap.size ∧ B ≤ sb ∧
      w.cell? ⟨sb, es.length * 4, none⟩ = some (.iface e.bt e.bv) ∧ w.cell? ⟨sb, es.length * 4 + 1, none⟩ = some (.slice e.inner.a e.inner.n e.inner.c) ∧
      w.cell? ⟨sb, es.length * 4 + 2, none⟩ = some (.int .i64 e.sl) ∧ w.cell? ⟨sb, es.length * 4 + 3, none⟩ = some (.int .i64 e.el) := by
  have hlen := ents_len es
  obtain ⟨h0, h⟩ := h
  obtain ⟨a, n, c⟩ := s
  simp only [List.length_append, List.length_cons, List.length_nil] at h0
  subst h0
  rw [List.length_append, List.flatMap_append] at h
  simp only [List.length_cons, List.length_nil, List.flatMap_cons, List.flatMap_nil, List.append_nil] at h
  rcases h.2 with ⟨_, h2⟩ | ⟨sb, cap, cur, h1, h2, h3, h4, _⟩
  · omega
  · simp only [Sl.v, Value.slice.injEq] at h1
    simp only [Sl.v] at h
    obtain ⟨rfl, _, rfl⟩ := h1
    refine ⟨sb, c, rfl, h4, h.frozenAt, rfl, Blk.lt h3, h2, ?_, ?_, ?_, ?_⟩
    all_goals (rw [World.ownsRow.cellAt h _ (by simp only [Nat.zero_add]; omega), List.getElem?_append_right (by omega), hlen]; simp [Ent.cells])
end IsStack
theorem info192 : (Tryz.prog.info? 121).map (fun i => (i.zero, i.size, i.bytes)) = some (some (.agg #[.nilIface, .slice none 0 0, .int .i64 0, .int .i64 0]), 4, 56) := by kernel_rfl
theorem set4_snoc (l : List Value) (n : Nat) (a b c d a' c' d' : Value) (h : l.length = n) : (((l ++ [a, b, c, d]).set n a').set (n + 2) c').set (n + 2 + 1) d' = l ++ [a', b, c', d'] := by
  subst h
  rw [List.set_append_right _ _ (Nat.le_refl _), List.set_append_right _ _ (by omega), List.set_append_right _ _ (by omega)]
  simp [show l.length + 2 + 1 - l.length = 3 from by omega, show l.length + 2 - l.length = 2 from by omega]

end Go.Proofs.YtmmijmhdbpldpaaGreatDoor
/- Contracts of the small functions on strings: searching for a byte, trimming blanks, blank lines. -/


namespace Go.Proofs.YtmmijmhdbpldpaaGreatDoor
open Go.RowKit
set_option maxHeartbeats 400000 in
theorem trimLeft_any (s : ByteArray) (w : World) (hs : s.size ≤ 140737488355328) :
    Calls Tryz.prog 84 #[.string s] w fun e w' => e = .returned (.string ⟨(trimL s.data.toList).toArray⟩) ∧ w = w' := by
  have hb := get_bt s
  have HL := hid (Lib.size_eq s)
  go_enter Tryz.func84, Tryz.ntmps84
  go_wp2
  go_loop [3] (fun i => ∃ k : Nat, k ≤ s.size ∧ i = .int .i64 k ∧ (∀ j c, j < k → s.data.toList[j]? = some c → isST c = true)) (fun i => s.size - (intOf i).toNat)
  case atStart => exact ⟨0, Nat.zero_le _, rfl, fun j c h => absurd h (by omega)⟩
  case round =>
    obtain ⟨k, hk, rfl, hj⟩ := hrel
    have HJ := hid hj
    clear hj
    have step : ∀ c, s.data.toList[k]? = some c → isST c = true → ∀ j d, j < k + 1 → s.data.toList[j]? = some d → isST d = true := by
      intro c hc hst j d hj hd
      rcases Nat.lt_or_ge j k with h1 | h1
      · exact HJ.out j d h1 hd
      · obtain rfl : j = k := by omega
        rw [hc] at hd; cases hd; exact hst
    have ST := hid step
    clear step
    by_cases hlt : k < s.size
    · obtain ⟨c, hc, hbt⟩ := bt_at s hlt
      have HC := hid hc
      have HB := hid hbt
      clear hc hbt
      by_cases h1 : bt s k = 32
      · go_wp2
        go_round
        case rel => exact ⟨k + 1, by omega, by go_num, ST.out c HC.out (isST_of (.inl (HB.out ▸ h1)))⟩
        case measure => simp [intOf]; omega
      · by_cases h2 : bt s k = 9
        · go_wp2
          go_round
          case rel => exact ⟨k + 1, by omega, by go_num, ST.out c HC.out (isST_of (.inr (HB.out ▸ h2)))⟩
          case measure => simp [intOf]; omega
        · have b1 : (bt s k == 32) = false := by simpa using h1
          have b2 : (bt s k == 9) = false := by simpa using h2
          go_wp2
          go_ret
          refine ⟨ret_str ?_, rfl⟩
          rw [extract_end, trimL, drop_of_while isST _ k HJ.out]
          intro d hd
          rw [HC.out] at hd; cases hd
          exact isST_not (HB.out ▸ h1) (HB.out ▸ h2)
    · go_wp2
      go_ret
      refine ⟨ret_str ?_, rfl⟩
      rw [extract_end, trimL, drop_of_while isST _ k HJ.out]
      intro d hd
      rw [List.getElem?_eq_none (by rw [← HL.out]; omega)] at hd
      cases hd

set_option maxHeartbeats 400000 in
theorem isBlank_any (g : Nat) (text : ByteArray) (i : Nat) (w : World) (hi : i ≤ text.size) (hs : text.size ≤ 140737488355328)
    (h1 : w.cell? ⟨g, 1, none⟩ = some (.int .i64 i)) (h3 : w.cell? ⟨g, 3, none⟩ = some (.string text)) :
    Calls Tryz.prog 60 #[.pointer (some ⟨g, 0, none⟩)] w fun e w' => e = .returned (.bool (trimL (text.data.toList.drop i)).isEmpty) ∧ ∃ n, w' = w.drewN n := by
  go_enter Tryz.func60, Tryz.ntmps60
  go_wp2
  go_quiet ((go_at_call 84; exact quiet_left (trimLeft_any _ _ (by simp; omega))))
  go_wp2
  go_ret
  exact ⟨ret_bool (by rw [List.take_of_length_le (by rw [List.length_drop, ← Lib.size_eq]; omega)]), _, rfl⟩
set_option maxHeartbeats 400000 in
theorem zzIndex1 (s : ByteArray) (c : UInt8) (w : World) (hs : s.size ≤ 140737488355328) :
    Calls Tryz.prog 53 #[.string s, .string ⟨#[c]⟩] w fun e w' => e = .returned (.int .i64 (idxB c s.data.toList)) ∧ w = w' := by
  have HP := hid (piece1 s)
  have hL : s.size = s.data.toList.length := Lib.size_eq s
  have HL := hid hL
  clear hL
  go_enter Tryz.func53, Tryz.ntmps53
  go_wp2
  go_loop [5] (fun i => ∃ k : Nat, k ≤ s.size ∧ i = .int .i64 k ∧ (∀ j, j < k → s.data.toList[j]? ≠ some c)) (fun i => s.size - (intOf i).toNat)
  case atStart => exact ⟨0, Nat.zero_le _, rfl, fun j h => absurd h (by omega)⟩
  case round =>
    obtain ⟨k, hk, rfl, hj⟩ := hrel
    have HJ := hid hj
    clear hj
    by_cases hlt : k < s.size
    · go_wp2
      · go_ret
        rename_i h _
        exact ⟨ret_int (idxB_at _ _ _ HJ.out (by rw [HP.out k c hlt] at h; simpa using h)).symm, rfl⟩
      · go_round
        case rel =>
          refine ⟨k + 1, by omega, by go_num, fun j hj => ?_⟩
          rcases Nat.lt_or_ge j k with h1 | h1
          · exact HJ.out j h1
          · obtain rfl : j = k := by omega
            rename_i h
            rw [HP.out j c hlt] at h
            simpa using h
        case measure => simp [intOf]; omega
    · go_wp2
      go_ret
      exact ⟨ret_int (idxB_none _ _ k HJ.out (by rw [← HL.out]; omega)).symm, rfl⟩


set_option maxHeartbeats 400000 in
theorem zzContains1 (s : ByteArray) (c : UInt8) (w : World) (hs : s.size ≤ 140737488355328) :
    Calls Tryz.prog 50 #[.string s, .string ⟨#[c]⟩] w fun e w' => e = .returned (.bool (decide (0 ≤ idxB c s.data.toList))) ∧ w = w' := by
  go_enter Tryz.func50, Tryz.ntmps50
  go_wp2_with (go_at_call 53; refine (zzIndex1 s c _ hs).mono ?_; rintro e w' ⟨rfl, rfl⟩)
  go_ret
  exact ⟨rfl, rfl⟩


end Go.Proofs.YtmmijmhdbpldpaaGreatDoor
/- Contracts of the functions on the stack of open blocks, and of the root. -/


namespace Go.Proofs.YtmmijmhdbpldpaaGreatDoor
open Go.RowKit
theorem trimStack_none (g : Nat) (r : PSr) (w : World) (d : Int) (h : IsPS w g r) (hd : d = r.stack.n) :
    Calls Tryz.prog 55 #[.pointer (some ⟨g, 0, none⟩), .int .i64 d] w fun e w' => e = .returned (.tuple #[]) ∧ w = w' := by
  subst hd
  have c4 := h.c4
  have b1 : ((r.stack.n : Int) < (r.stack.n : Int)) = False := by simp
  go_enter Tryz.func55, Tryz.ntmps55
  go_wp2
  go_rounds 1
  go_end0
  exact ⟨rfl, rfl⟩

set_option maxRecDepth 20000 in
set_option maxHeartbeats 1600000 in
theorem addBlock_top (B g : Nat) (r : PSr) (es : List Ent) (w : World) (u : TypeId) (x : Value) (hB : B ≤ w.heap.size) (hps : IsPS w g r) (hst : IsStack w B r.stack es) (hd : r.lineDepth + 1 = es.length) (hn : es.length ≤ 1000000) :
    Calls Tryz.prog 52 #[.pointer (some ⟨g, 0, none⟩), .iface u x] w fun e w' => e = .returned (.tuple #[]) ∧
      ∃ v, IsPS w' g { r with stack := v } ∧ IsStack w' B v (es ++ [⟨u, x, Sl.nil, r.lineno, r.lineno⟩]) ∧ (∀ k, v.v.ownBlock = some k → r.stack.v.ownBlock = some k ∨ w.heap.size ≤ k) ∧ Mod (fun k => k = g ∨ some k = r.stack.v.ownBlock) w w' := by
  obtain ⟨hn0, hst⟩ := hst
  have c4 := hps.c4
  have c5 := hps.c5
  have hl0 : -1 ≤ r.lineDepth := by omega
  have hl1 : r.lineDepth ≤ 1000000 := by omega
  have HD := hid (show r.lineDepth + 1 = r.stack.n by rw [hn0]; exact hd)
  have HN := hid hn0
  have hn1 : r.stack.n ≤ 1000000 := by omega
  clear hd hn0
  obtain ⟨i0, hi, hz0, hz1, hz2⟩ := info_parts info192
  have hcells : ∀ j u, ([.nilIface, .slice none 0 0, .int .i64 0, .int .i64 0] : List Value)[j]? = some u → (w.alloc (.cells #[.nilIface, .slice none 0 0, .int .i64 0, .int .i64 0] 121)).cell? ((⟨w.heap.size, 0, none⟩ : Addr).add j) = some u := by
    intro j u hj
    rw [Addr.add]
    have := (Blk.new w 121 #[.nilIface, .slice none 0 0, .int .i64 0, .int .i64 0]).cell j
    split
    · rename_i h0; subst h0; rw [this]; exact hj
    · rw [show (0 + j) = j from by omega, this]; simpa using hj
  have HCL := hid hcells
  clear hcells
  have hst' : w.ownsRow B 121 4 (.slice r.stack.a r.stack.n r.stack.c) r.stack.n (es.flatMap Ent.cells) := by have := hst; rw [← HN.out] at this; exact this
  have HST := hid hst'
  clear hst'
  go_enter Tryz.func52, Tryz.ntmps52
  go_wp2_with (first | (go_at_call 55; refine (trimStack_none g r w _ hps HD.out).mono ?_; rintro e w' ⟨rfl, rfl⟩) | (at_builtin; refine wpList_append_own_at _ rfl (.tmp 16) (.tmp 18) 87 rfl B 121 i0 _ 4 56 Tryz.underlying87 hi hz0 hz1 hz2 rfl (by decide) (.slice r.stack.a r.stack.n r.stack.c) r.stack.n (es.flatMap Ent.cells) rfl (World.ownsRow.alloc HST.out _) ⟨w.heap.size, 0, none⟩ 1 1 [.nilIface, .slice none 0 0, .int .i64 0, .int .i64 0] rfl rfl HCL.out ?_ ?_ ?_ ?_ ?_))
  · intro u hu; simp at hu; rcases hu with rfl | rfl | rfl | rfl <;> rfl
  · unfold maxLen; omega
  · omega
  · simp; omega
  · intro v' w1 hown hgr hnil hat
    have hne : some g ≠ (Value.slice r.stack.a r.stack.n r.stack.c).ownBlock := own_ne hst hps (by decide)
    have hps1 : IsPS w1 g r := Blk.grown (Blk.alloc hps _) hgr hne
    have hne1 : some g ≠ v'.ownBlock := own_ne hown hps1 (by decide)
    obtain ⟨sb, cap', rfl, hsb⟩ : ∃ sb cap', v' = .slice (some ⟨sb, 0, none⟩) (r.stack.n + 1) cap' ∧ r.stack.n + 1 ≤ cap' := by
      rcases hown.2 with ⟨h1, h2⟩ | ⟨sb, cap', cur, h1, _, _, h2, _⟩
      · exact absurd h2 (by omega)
      · exact ⟨sb, cap', h1, h2⟩
    have hgs : g ≠ sb := fun e => hne1 (by simp [Value.ownBlock, e])
    have hsg : sb ≠ g := fun e => hgs e.symm
    have f1 := hps1.free
    have f2 := hown.frozenAt
    have d3 := hps1.c3
    have d4 := hps1.c4
    have hlen : (es.flatMap Ent.cells).length = r.stack.n * 4 := HST.out.1
    have k0 : w1.cell? ⟨sb, r.stack.n * 4, none⟩ = some .nilIface := by rw [hown.cellAt _ (by omega), List.getElem?_append_right (by omega), hlen]; simp
    have k2 : w1.cell? ⟨sb, r.stack.n * 4 + 2, none⟩ = some (.int .i64 0) := by rw [hown.cellAt _ (by omega), List.getElem?_append_right (by omega), hlen]; simp
    have k3 : w1.cell? ⟨sb, r.stack.n * 4 + 3, none⟩ = some (.int .i64 0) := by rw [hown.cellAt _ (by omega), List.getElem?_append_right (by omega), hlen]; simp
    have HLEN := hid hlen
    clear hlen
    have HO := hid hown
    have HG := hid hgr
    have HA := hid hat
    clear hown hgr hat
    go_wp2
    go_quiet (fail)
    go_wp2
    go_end0
    refine ⟨rfl, ⟨some ⟨sb, 0, none⟩, r.stack.n + 1, cap'⟩, ((((hps1.set4 _ _ _).drewN nq).far hgs _).far hgs _).far hgs _, ⟨by simp [HN.out], ?_⟩, ?_, ?_⟩
    · have s0 := World.ownsRow.drewN (own_far (p := ⟨g, 4, none⟩) HO.out hne1 (Value.slice (some ⟨sb, 0, none⟩) (r.stack.n + 1) cap')) nq
      have s1 := (((s0.stored (r.stack.n * 4) (.iface u x)).1.stored (r.stack.n * 4 + 2) (.int .i64 r.lineno)).1.stored (r.stack.n * 4 + 2 + 1) (.int .i64 r.lineno)).1
      rw [set4_snoc _ _ _ _ _ _ _ _ _ HLEN.out] at s1
      rw [List.flatMap_append, List.length_append]
      simp only [List.length_cons, List.length_nil, ← HN.out]
      exact s1
    · intro k hk
      rcases HA.out with h | h
      · exact .inl (h ▸ hk)
      · have hk' : (Value.slice (some ⟨sb, 0, none⟩) (r.stack.n + 1) cap').ownBlock = some k := hk
        rw [h] at hk'; cases hk'; exact .inr (by omega)
    · have m0 : Mod (fun k => k = g ∨ some k = r.stack.v.ownBlock) w w1 := ((Mod.refl _ w).alloc _).grown HG.out (fun k hk => .inl (.inr hk.symm))
      have hsb' : (sb = g ∨ some sb = r.stack.v.ownBlock) ∨ w.heap.size ≤ sb := by
        rcases HA.out with h | h
        · exact .inl (.inr h)
        · have : sb = w.heap.size + 1 := by simpa [Value.ownBlock] using h
          exact .inr (by omega)
      exact ((((m0.setCell (.inl (.inl rfl)) _).drewN nq).setCell hsb' _).setCell hsb' _).setCell hsb' _

set_option maxRecDepth 20000 in
set_option maxHeartbeats 1600000 in
theorem blocks_any (B g : Nat) (r : PSr) (es : List Ent) (e0 : Ent) (w : World) (hps : IsPS w g r) (hst : IsStack w B r.stack (es ++ [e0])) (hn : es.length ≤ 1000000) :
    Calls Tryz.prog 251 #[.pointer (some ⟨g, 0, none⟩)] w fun e w' => e = .returned (.slice e0.inner.a e0.inner.n e0.inner.c) ∧ ∃ n, w' = w.drewN n := by
  obtain ⟨sb, cap, hv, hcap, hfr, hob, hsb, hBs, k0, k1, k2, k3⟩ := hst.top
  have c4 := hps.c4
  rw [hv] at c4
  have HV := hid hv
  have HOB := hid hob
  clear hv hob
  go_enter Tryz.func251, Tryz.ntmps251
  go_wp2
  go_quiet (fail)
  go_wp2
  go_ret
  exact ⟨rfl, _, rfl⟩

set_option maxRecDepth 20000 in
set_option maxHeartbeats 1600000 in
theorem pos_any (B g : Nat) (r : PSr) (es : List Ent) (e0 : Ent) (w : World) (hps : IsPS w g r) (hst : IsStack w B r.stack (es ++ [e0])) (hn : es.length ≤ 1000000) :
    Calls Tryz.prog 252 #[.pointer (some ⟨g, 0, none⟩)] w fun e w' => e = .returned (.agg #[.int .i64 e0.sl, .int .i64 e0.el]) ∧ Below w.heap.size w w' := by
  obtain ⟨sb, cap, hv, hcap, hfr, hob, hsb, hBs, k0, k1, k2, k3⟩ := hst.top
  have c4 := hps.c4
  rw [hv] at c4
  have hg := hps.lt
  have HV := hid hv
  have HOB := hid hob
  clear hv hob
  go_enter Tryz.func252, Tryz.ntmps252
  go_wp2
  go_quiet (fail)
  go_wp2
  go_returns
  exact ⟨rfl, ((below_drewN ((Below.refl _ _).alloc (Nat.le_refl _) _) nq).setCell (Nat.le_refl _) _).setCell (Nat.le_refl _) _⟩

theorem ta_ps (p : Option Addr) (w : World) : (Instr.typeAssert (.iface 116 (.pointer p)) 343 116 false).run Tryz.prog w = .ok (.pointer p) w := by kernel_rfl
set_option maxRecDepth 20000 in
set_option maxHeartbeats 1600000 in
theorem rootBuild_any (B g : Nat) (r : PSr) (es : List Ent) (e0 : Ent) (w : World) (x : Value) (hps : IsPS w g r) (hst : IsStack w B r.stack (es ++ [e0])) (hn : es.length ≤ 1000000) :
    Calls Tryz.prog 239 #[x, .iface 116 (.pointer (some ⟨g, 0, none⟩))] w fun e w' => ∃ d, e = .returned (.iface 47 (.pointer (some ⟨d, 0, none⟩))) ∧ w.heap.size ≤ d ∧ Blk w' d 339 #[.int .i64 e0.sl, .int .i64 e0.el, e0.inner.v, .map r.links] ∧ Below w.heap.size w w' := by
  have c2 := hps.c2
  have hg := hps.lt
  have ta := ta_ps
  go_enter Tryz.func239, Tryz.ntmps239
  go_wp2
  go_region_held3 (fun w' => IsPS w' g r ∧ IsStack w' B r.stack (es ++ [e0]) ∧ w'.cell? ⟨g, 2, none⟩ = some (.map r.links) ∧ Below w.heap.size w w')
    (first
      | exact ⟨hps.drew, hst.drew, c2, (Below.refl _ _).drew⟩
      | (go_split_ands; exact ⟨IsPS.below (by assumption) hb, IsStack.below (by assumption) hb, (IsPS.below (by assumption) hb).c2, Below.trans (by assumption) (hb.mono (Below.size (by assumption)))⟩)
      | (go_split_ands; exact ⟨IsPS.drewN (by assumption) _, IsStack.drewN (by assumption) _, (IsPS.drewN (by assumption) _).c2, below_drewN (by assumption) _⟩)
      | (go_split_ands; exact ⟨IsPS.alloc (by assumption) _, IsStack.alloc (by assumption) _, (IsPS.alloc (by assumption) _).c2, Below.alloc (by assumption) (Below.size (by assumption)) _⟩))
    (first
      | (go_at_call 251; (try go_split_ands); refine (blocks_any B g r es e0 _ (by assumption) (by assumption) hn).mono ?_; rintro e w1 ⟨rfl, n, rfl⟩)
      | (go_at_call 252; (try go_split_ands); refine (pos_any B g r es e0 _ (by assumption) (by assumption) hn).mono ?_; rintro e w1 ⟨rfl, hb⟩))
  all_goals go_wp2
  all_goals go_ret
  all_goals
    obtain ⟨_, _, _, hB⟩ := ‹IsPS _ g r ∧ _ ∧ _ ∧ Below w.heap.size w _›
    have hz := (‹Below w.heap.size w w1›).size
    exact ⟨_, rfl, hz, Blk.new _ _ _, hB⟩

theorem ta_35_63 (p : Option Addr) (w : World) : (Instr.typeAssert (.iface 47 (.pointer p)) 69 111 true).run Tryz.prog w = .ok (.tuple #[.pointer none, .bool false]) w := by kernel_rfl
theorem ta_35_35 (p : Option Addr) (w : World) : (Instr.typeAssert (.iface 47 (.pointer p)) 69 47 false).run Tryz.prog w = .ok (.pointer p) w := by kernel_rfl
def CloseRootP (g : Nat) (r : PSr) (inner : Sl) (sl el : Int) (w : World) (e : Ending) (w' : World) : Prop :=
  ∃ d st, e = .returned (.iface 47 (.pointer (some ⟨d, 0, none⟩))) ∧ w.heap.size ≤ d ∧ st.n = 0 ∧ IsPS w' g { r with root := some ⟨d, 0, none⟩, stack := st } ∧ Blk w' d 339 #[.int .i64 sl, .int .i64 el, inner.v, .map r.links] ∧ Mod (fun k => k = g) w w'
set_option maxRecDepth 20000 in
set_option maxHeartbeats 1600000 in
theorem closeRoot_any (B g : Nat) (r : PSr) (a : Option Addr) (inner : Sl) (sl el : Int) (w : World) (hps : IsPS w g r) (hst : IsStack w B r.stack ([] ++ [⟨98, .pointer a, inner, sl, el⟩])) :
    Calls Tryz.prog 63 #[.pointer (some ⟨g, 0, none⟩)] w (CloseRootP g r inner sl el w) := by
  obtain ⟨sb, cap, hv, hcap, hfr, hob, hsb, hBs, k0, k1, k2, k3⟩ := hst.top
  have c4 := hps.c4
  rw [hv] at c4
  have hg := hps.lt
  have HV := hid hv
  have HOB := hid hob
  clear hv hob
  have ta1 := ta_35_63
  have ta2 := ta_35_35
  simp only [List.length_nil, Nat.zero_mul, Nat.zero_add] at k0 k1 k2 k3 hcap c4
  go_enter Tryz.func63, Tryz.ntmps63
  go_wp2_with fail
  go_quiet (fail)
  go_wp2_with (go_at_call 239; refine (rootBuild_any B g r [] _ _ _ (by assumption) (by assumption) (by simp)).mono ?_; rintro e w1 ⟨d, rfl, hd, hblk, hb⟩)
  have hb' : Below w.heap.size w w1 := (below_drewN (Below.refl _ _) nq).trans hb
  have hps1 := hps.below (w' := w1) hb'
  have f1 := hps1.free
  have d4 := hps1.c4
  have d1 := hps1.c1
  rw [HV.out] at d4
  have HBL := hid hblk
  have HBB := hid hb'
  clear hblk hb hb'
  have hdg : d ≠ g := fun e => by subst e; have := hd; simp at this; omega
  go_region
  all_goals go_wp2
  all_goals go_ret
  refine ⟨d, _, rfl, hd, rfl, (hps1.set4 _ _ _).set1 _, (HBL.out.far hdg _).far hdg _, (((Mod.below' (S := fun k => k = g) HBB.out).setCell (.inl rfl) _).setCell (.inl rfl) _).drew⟩

set_option maxRecDepth 20000 in
set_option maxHeartbeats 1600000 in
/-- trimStack of the root alone. -/
theorem trimRoot_any (B g : Nat) (r : PSr) (a : Option Addr) (inner : Sl) (sl el : Int) (w : World) (hps : IsPS w g r) (hst : IsStack w B r.stack ([] ++ [⟨98, .pointer a, inner, sl, el⟩])) :
    Calls Tryz.prog 55 #[.pointer (some ⟨g, 0, none⟩), .int .i64 0] w fun e w' => e = .returned (.tuple #[]) ∧ ∃ d st, w.heap.size ≤ d ∧ IsPS w' g { r with root := some ⟨d, 0, none⟩, stack := st } ∧ Blk w' d 339 #[.int .i64 sl, .int .i64 el, inner.v, .map r.links] ∧ Mod (fun k => k = g) w w' := by
  obtain ⟨sb, cap, hv, hcap, hfr, hob, hsb, hBs, k0, k1, k2, k3⟩ := hst.top
  have c4 := hps.c4
  rw [hv] at c4
  simp only [List.length_nil, Nat.zero_add] at c4
  go_enter Tryz.func55, Tryz.ntmps55
  go_wp2
  refine wp_loop_rounds 2 ?_
  rw [rounds_succ]
  go_wp2_with (go_at_call 63; refine (closeRoot_any B g r a inner sl el _ hps hst).mono ?_; rintro e w1 ⟨d, st, rfl, hd, hst0, hps1, hblk, hm⟩; have d4 := hps1.c4; rw [hst0] at d4; have HM := hid hm; have HBL := hid hblk; clear hm hblk)
  rw [rounds_succ]
  go_wp2
  go_end0
  exact ⟨rfl, d, st, hd, hps1, HBL.out, HM.out⟩


end Go.Proofs.YtmmijmhdbpldpaaGreatDoor
/- A parse, whatever its lines do. -/

namespace Go.Proofs.YtmmijmhdbpldpaaGreatDoor
open Go.RowKit
/-- A parseState as a parse begins. -/
def ps0 (pb : Nat) : PSr := ⟨pb, none, none, 0, Sl.nil, -1, false, ⟨#[]⟩, 0, Sl.nil, Sl.nil, Sl.nil, List.replicate 80 (.int .i64 0) ++ [.bool false]⟩
theorem zero_ps (pb : Nat) : (Tryz.zeroCells95.setIfInBounds 0 (.pointer (some ⟨pb, 0, none⟩))).setIfInBounds 5 (.int .i64 (-1)) = (ps0 pb).cells.toArray := by kernel_rfl
structure ParseH (pb g : Nat) (ta : Option Addr) (m : Nat) (Inv : List UInt8 → Nat → World → Prop) (Fin : Nat → World → Prop) (L : Nat) : Prop where
  line : ∀ l n w, Inv l n w → l ≠ [] → l.length ≤ L → (∃ r, IsPS w g r ∧ r.lineno = n) ∧ n + l.length ≤ 1000000 ∧
    Calls Tryz.prog 54 #[.pointer (some ⟨g, 0, none⟩), .agg #[.int .i64 0, .int .i64 0, .int .i64 0, .string ⟨(nextLine l).1.toArray⟩, .int .u8 (nextLine l).2.1]] (w.setCell ⟨g, 3, none⟩ (.int .i64 ((n : Int) + 1)))
      (fun e w' => e = .returned (.tuple #[]) ∧ Inv (nextLine l).2.2 (n + 1) w')
  drew : ∀ l n w k, Inv l n w → Inv l n (w.drewN k)
  trim : ∀ n w, Inv [] n w → Calls Tryz.prog 55 #[.pointer (some ⟨g, 0, none⟩), .int .i64 0] w (fun e w' => e = .returned (.tuple #[]) ∧ Fin 0 w')
  at_ : ∀ k w, Fin k w → m ≤ 1000000 ∧ ∃ r c, IsPS w g r ∧ r.texts = ⟨ta, m, c⟩ ∧ w.cell? ⟨pb, 2, none⟩ = some (.bool false)
  text : ∀ k w, Fin k w → k < m → ∃ ab ao tb raw, ta = some ⟨ab, ao, none⟩ ∧ w.cell? ⟨ab, ao + k, none⟩ = some (.pointer (some ⟨tb, 0, none⟩)) ∧ w.cell? ⟨tb, 3, none⟩ = some (.string raw) ∧
    Calls Tryz.prog 56 #[.pointer (some ⟨g, 0, none⟩), .string raw] w (fun e w' => ∃ a n c, e = .returned (.slice a n c) ∧ (∃ v, w'.cell? ⟨tb, 2, none⟩ = some v) ∧ w'.frozen? ⟨tb, 2, none⟩ = false ∧ Fin (k + 1) (w'.setCell ⟨tb, 2, none⟩ (.slice a n c)))

def ParseP (g m : Nat) (Fin : Nat → World → Prop) (e : Ending) (w' : World) : Prop := ∃ r k, e = .returned (.tuple #[.pointer r.root, .bool r.corner]) ∧ IsPS w' g r ∧ ∃ w0, Fin m w0 ∧ w' = w0.drewN k

def strLen : Value → Nat | .string s => s.size | _ => 0
def LoopR (Inv : List UInt8 → Nat → World → Prop) (L : Nat) (t : Value) (wr : World) : Prop := ∃ l n, t = .string ⟨l.toArray⟩ ∧ l.length ≤ L ∧ Inv l n wr
def TextR (Fin : Nat → World → Prop) (m : Nat) (i : Value) (wr : World) : Prop := ∃ k : Nat, k ≤ m ∧ i = .int .i64 k ∧ Fin k wr
def CutR (l : List UInt8) (wr : World) (t ln nl : Value) (wx : World) : Prop := t = .string ⟨(nextLine l).2.2.toArray⟩ ∧ ln = .string ⟨(nextLine l).1.toArray⟩ ∧ nl = .int .u8 (nextLine l).2.1 ∧ ∃ k, wx = wr.drewN k
set_option maxRecDepth 20000 in
set_option maxHeartbeats 4000000 in
theorem parse_gen (pb : Nat) (l0 : List UInt8) (w : World) (ta : Option Addr) (m : Nat) (Inv : List UInt8 → Nat → World → Prop) (Fin : Nat → World → Prop) (hl : l0.length ≤ 1000000)
    (hno : idxB 0 l0 = -1)
    (H : ParseH pb w.heap.size ta m Inv Fin l0.length)
    (h0 : ∀ w' bn, IsPS w' w.heap.size (ps0 pb) → Below w.heap.size w w' →
      Calls Tryz.prog 52 #[.pointer (some ⟨w.heap.size, 0, none⟩), .iface 98 (.pointer (some ⟨bn, 0, none⟩))] w' (fun e w1 => e = .returned (.tuple #[]) ∧ Inv l0 0 w1)) :
    Calls Tryz.prog 43 #[.pointer (some ⟨pb, 0, none⟩), .string ⟨l0.toArray⟩] w (ParseP w.heap.size m Fin) := by
  have HH := hid H
  have H0 := hid h0
  clear H h0
  have hno' : (0 ≤ idxB 0 l0) = False := by rw [hno]; simp
  go_enter Tryz.func43, Tryz.ntmps43
  go_wp2_with (first | (go_at_call 50; refine (zzContains1 ⟨l0.toArray⟩ 0 _ (bsz (by omega))).mono ?_; rintro e w' ⟨rfl, rfl⟩))
  go_wp2_with fail
  refine (H0.out _ (w.heap.size + 1) ?_ ?_).mono ?_
  · rw [zero_ps]; exact Blk.alloc (Blk.new _ _ _) _
  · exact ((Below.refl _ _).alloc (Nat.le_refl _) _).alloc (by simp) _
  rintro e w1 ⟨rfl, hinv⟩
  have HI := hid hinv
  clear hinv
  go_wp2_with fail
  go_loopw [1] (fun t wr => LoopR Inv l0.length t wr) (fun t _ => strLen t)
  case atStart => exact ⟨l0, 0, rfl, Nat.le_refl _, HI.out⟩
  case round =>
    obtain ⟨l, n, rfl, hll, hinv⟩ := hrel
    have HV := hid hinv
    clear hinv
    by_cases hnil : l = []
    · subst hnil
      go_wp2_with (go_at_call 55; refine (HH.out.trim n wr HV.out).mono ?_; rintro e w2 ⟨rfl, hfin⟩; have HF := hid hfin; clear hfin; obtain ⟨hm, r, c, hps, htx, hpar⟩ := HH.out.at_ 0 w2 HF.out; have c11 := hps.c11; rw [htx] at c11; have HTX := hid htx; clear htx)
      go_loopw [83] (fun i wr => TextR Fin m i wr) (fun i _ => m - (intOf i).toNat)
      case atStart => exact ⟨0, Nat.zero_le _, rfl, HF.out⟩
      case round =>
        clear c11 hpar hps
        obtain ⟨k, hk, rfl, hfin⟩ := hrel
        obtain ⟨_, r1, c1, hps1, htx1, hpar1⟩ := HH.out.at_ k wr hfin
        have HF1 := hid hfin
        have HT1 := hid htx1
        clear hfin htx1
        by_cases hkm : k < m
        · obtain ⟨ab, ao, tb, raw, hta, ca, cb, hc⟩ := HH.out.text k wr HF1.out hkm
          subst hta
          have HC := hid hc
          clear hc
          go_wp2_with (go_at_call 56; refine HC.out.mono ?_; rintro e w3 ⟨a3, n3, c3, rfl, ⟨v3, cv3⟩, fv3, hfin3⟩; have HF3 := hid hfin3; clear hfin3)
          go_roundw
          case rel => exact ⟨k + 1, by omega, by go_num, HF3.out⟩
          case measure => simp [intOf]; omega
        · obtain rfl : k = m := by omega
          have c1 := hps1.c1
          have c6 := hps1.c6
          have c0 := hps1.c0
          have HP1 := hid hps1
          clear hps1
          go_wp2
          go_quiet (fail)
          go_wp2
          go_ret2
          exact ⟨r1, _, rfl, HP1.out.drewN _, _, HF1.out, rfl⟩
    · have hne : l.isEmpty = false := by cases l with | nil => exact absurd rfl hnil | cons a b => rfl
      have HNIL := hid hnil
      clear hnil
      go_upto_block 2 with (first | (go_at_call 53; refine (zzIndex1 ⟨l.toArray⟩ _ _ (bsz (by omega))).mono ?_; rintro e w' ⟨rfl, rfl⟩))
      have bi := idxB_lt l 10
      have bj := idxB_lt l 13
      have NL := hid (show nextLine l = _ from rfl)
      go_cut [1, 7, 10] (fun t ln nl wx => CutR l wr t ln nl wx)
      case first =>
        by_cases h1 : 0 ≤ idxB 13 l
        · by_cases h2 : idxB 10 l < 0
          · have HN := hid (show nextLine l = (l.take (idxB 13 l).toNat, 13, l.drop ((idxB 13 l).toNat + 1)) by unfold nextLine; rw [if_pos ⟨h1, .inl h2⟩, if_neg (by omega)])
            have h3 : ¬ idxB 10 l = idxB 13 l + 1 := by omega
            go_wp2
            go_meet
            case rel => exact ⟨by rw [HN.out, show (idxB 13 l + 1).toNat = (idxB 13 l).toNat + 1 from by omega, ex_from], by rw [HN.out, ex_to], by rw [HN.out]; rfl, 0, rfl⟩
          · by_cases h3 : idxB 13 l < idxB 10 l
            · by_cases h4 : idxB 10 l = idxB 13 l + 1
              · have HN := hid (show nextLine l = (l.take (idxB 13 l).toNat, 23, l.drop ((idxB 13 l).toNat + 2)) by unfold nextLine; rw [if_pos ⟨h1, .inr h3⟩, if_pos h4])
                have H4 := hid h4
                have h5 : (idxB 10 l == idxB 13 l + 1) = true := by simpa using h4
                clear h4
                have h6 : idxB 13 l + 2 ≤ l.length := by have := H4.out; omega
                go_wp2
                go_meet
                case rel => exact ⟨by rw [HN.out, show (idxB 13 l + 2).toNat = (idxB 13 l).toNat + 2 from by omega, ex_from], by rw [HN.out, ex_to], by rw [HN.out]; rfl, 0, rfl⟩
              · have HN := hid (show nextLine l = (l.take (idxB 13 l).toNat, 13, l.drop ((idxB 13 l).toNat + 1)) by unfold nextLine; rw [if_pos ⟨h1, .inr h3⟩, if_neg h4])
                go_wp2
                go_meet
                case rel => exact ⟨by rw [HN.out, show (idxB 13 l + 1).toNat = (idxB 13 l).toNat + 1 from by omega, ex_from], by rw [HN.out, ex_to], by rw [HN.out]; rfl, 0, rfl⟩
            · have HN := hid (show nextLine l = (l.take (idxB 10 l).toNat, 10, l.drop ((idxB 10 l).toNat + 1)) by unfold nextLine; rw [if_neg (by omega), if_pos (by omega)])
              go_wp2
              go_quiet (fail)
              go_wp2
              go_meet
              case rel => exact ⟨by rw [HN.out, show (idxB 10 l + 1).toNat = (idxB 10 l).toNat + 1 from by omega, ex_from], by rw [HN.out, ex_to], by rw [HN.out]; rfl, _, rfl⟩
        · by_cases h2 : 0 ≤ idxB 10 l
          · have HN := hid (show nextLine l = (l.take (idxB 10 l).toNat, 10, l.drop ((idxB 10 l).toNat + 1)) by unfold nextLine; rw [if_neg (by omega), if_pos h2])
            go_wp2
            go_quiet (fail)
            go_wp2
            go_meet
            case rel => exact ⟨by rw [HN.out, show (idxB 10 l + 1).toNat = (idxB 10 l).toNat + 1 from by omega, ex_from], by rw [HN.out, ex_to], by rw [HN.out]; rfl, _, rfl⟩
          · have HN := hid (show nextLine l = (l, 0, []) by unfold nextLine; rw [if_neg (by omega), if_neg h2])
            go_wp2
            go_meet
            case rel => exact ⟨by rw [HN.out], by rw [HN.out], by rw [HN.out]; rfl, 0, rfl⟩
      case rest =>
        obtain ⟨rfl, rfl, rfl, k, rfl⟩ := hcut
        obtain ⟨⟨r, hps, hln⟩, hb, hc⟩ := HH.out.line l n _ (HH.out.drew l n wr k HV.out) HNIL.out (by omega)
        have c3 := hps.c3
        rw [hln] at c3
        have f1 := hps.free
        have HC := hid hc
        have NR := nextLine_rest l HNIL.out
        clear hc hln
        go_wp2_with (go_at_call 54; refine HC.out.mono ?_; rintro e w2 ⟨rfl, hinv2⟩; have HI2 := hid hinv2; clear hinv2)
        go_roundw
        case rel => exact ⟨_, n + 1, rfl, by omega, HI2.out⟩
        case measure => show (nextLine l).2.2.toArray.size < l.toArray.size; simpa using NR

end Go.Proofs.YtmmijmhdbpldpaaGreatDoor
/- Options and the parser that they make. -/


namespace Go.Proofs.YtmmijmhdbpldpaaGreatDoor
open Go.RowKit
/-- Options, as the program's structure holds them. -/
structure Opt where
  del : Bool
  tasks : Bool
  auto_ : Bool
  autoHTTP : Bool
  tables : Bool
  dots : Bool
  dashes : Bool
  quotes : Bool
  headID : Bool
  emoji : Bool
def Opt.v (o : Opt) : Value := .agg #[.bool o.del, .bool o.tasks, .bool o.auto_, .bool o.autoHTTP, .bool o.tables, .bool o.dots, .bool o.dashes, .bool o.quotes, .bool o.headID, .bool o.emoji]
/-- The cells of a Parser with these options. -/
def Opt.parser (o : Opt) : Array Value := #[.bool o.headID, .bool o.del, .bool o.tasks, .bool o.auto_, .bool o.autoHTTP, .bool o.tables, .bool o.emoji, .bool o.dots, .bool o.dashes, .bool o.quotes]
def plainO : Opt := ⟨false, false, false, false, false, false, false, false, false, false⟩

set_option maxRecDepth 20000 in
set_option maxHeartbeats 800000 in
theorem parser_any (o : Opt) (w : World) : Calls Tryz.prog 28 #[o.v] w fun e w' => ∃ g, e = .returned (.pointer (some ⟨g, 0, none⟩)) ∧ w.heap.size ≤ g ∧ Blk w' g 77 o.parser ∧ Below w.heap.size w w' := by
  obtain ⟨o0, o1, o2, o3, o4, o5, o6, o7, o8, o9⟩ := o
  unfold Opt.v
  dsimp only
  go_enter Tryz.func28, Tryz.ntmps28
  go_wp2
  go_ret
  exact ⟨_, rfl, by simp, by simpa [Opt.parser] using Blk.new (w.alloc (.cells #[.bool o0, .bool o1, .bool o2, .bool o3, .bool o4, .bool o5, .bool o6, .bool o7, .bool o8, .bool o9] 26)) 77 #[.bool o8, .bool o0, .bool o1, .bool o2, .bool o3, .bool o4, .bool o9, .bool o5, .bool o6, .bool o7], ((Below.refl _ _).alloc (Nat.le_refl _) _).alloc (by simp) _⟩
end Go.Proofs.YtmmijmhdbpldpaaGreatDoor
