/- Plain lemmas on numbers, lists, strings and memory, over no program in particular. -/
import Derived.WalkKit
import Derived.Handy
import Derived.WalkSpells
import Derived.WalkLawsBesides
import Derived.Deep.QuietTactic
import Derived.BigQuiet
import Derived.Lib.Strings
import Derived.Maps.AppendAt
import Derived.Deep.RegionHeld3
import Derived.Deep.RegionWith
import Derived.Deep.DeepCutAuto
import Derived.Deep.CutBlock
namespace Go.Proofs.YtmcjhcfhglfmlaaGreatDoor
open Go.RowKit
def bt (s : ByteArray) (k : Nat) : Int := if h : k < s.size then ((s[k]'h).toNat : Int) else 0
theorem get_bt (s : ByteArray) : ∀ (n : Nat) (h : n < s.size), ((s[n]'h).toNat : Int) = bt s n := fun n h => by unfold bt; rw [dif_pos h]
theorem hid {p : Prop} (h : p) : Hid p := h
theorem ret_int {k : IntKind} {a b : Int} (h : a = b) : Ending.returned (.int k a) = .returned (.int k b) := by rw [h]
theorem ret_bool {a b : Bool} (h : a = b) : Ending.returned (.bool a) = .returned (.bool b) := by rw [h]
theorem ret_str {a b : ByteArray} (h : a = b) : Ending.returned (.string a) = .returned (.string b) := by rw [h]
theorem quiet_add_left {P : Program} {f : FuncId} {args : Array Value} {w : World} {a n : Nat} {v : Value}
    (h : Calls P f args (w.drewN (a + n)) fun e w' => e = .returned v ∧ w.drewN (a + n) = w') :
    Calls P f args (w.drewN (a + n)) fun e w'' => e = .returned v ∧ ∃ m, w'' = w.drewN (a + m) :=
  h.mono fun _ _ ⟨he, hm⟩ => ⟨he, n, hm.symm⟩
theorem quiet_left {P : Program} {f : FuncId} {args : Array Value} {w : World} {n : Nat} {v : Value}
    (h : Calls P f args (w.drewN n) fun e w' => e = .returned v ∧ w.drewN n = w') : Calls P f args (w.drewN n) fun e w'' => e = .returned v ∧ ∃ m, w'' = w.drewN m :=
  h.mono fun _ _ ⟨he, hm⟩ => ⟨he, n, hm.symm⟩
/-- Blocks outside S that were there are as they were; nothing has gone. -/
structure Mod (S : Nat → Prop) (w w' : World) : Prop where
  os : w'.os = w.os
  tape : w'.tape = w.tape
  output : w'.output = w.output
  size : w.heap.size ≤ w'.heap.size
  block : ∀ k, k < w.heap.size → ¬ S k → w'.heap[k]? = w.heap[k]?

namespace Mod
variable {S S' : Nat → Prop} {a b c w w' : World}
theorem refl (S : Nat → Prop) (w : World) : Mod S w w := ⟨rfl, rfl, rfl, Nat.le_refl _, fun _ _ _ => rfl⟩
theorem trans (h : Mod S a b) (h' : Mod S' b c) (hs : ∀ k, k < a.heap.size → S' k → S k) : Mod S a c :=
  ⟨h'.os.trans h.os, h'.tape.trans h.tape, h'.output.trans h.output, Nat.le_trans h.size h'.size,
    fun k hk hn => (h'.block k (Nat.lt_of_lt_of_le hk h.size) (fun x => hn (hs k hk x))).trans (h.block k hk hn)⟩
theorem mono (h : Mod S a b) (hs : ∀ k, k < a.heap.size → S k → S' k) : Mod S' a b := ⟨h.os, h.tape, h.output, h.size, fun k hk hn => h.block k hk (fun x => hn (hs k hk x))⟩
theorem below {B : Nat} (h : Below B a b) (hB : ∀ k, k < a.heap.size → B ≤ k → S k) : Mod S a b :=
  ⟨h.os, h.tape, h.output, h.size, fun k hk hn => h.block k (Nat.lt_of_not_le fun x => hn (hB k hk x))⟩
theorem below' (h : Below a.heap.size a b) : Mod S a b := below h (fun k h1 h2 => by omega)
theorem toBelow {B : Nat} (h : Mod S a b) (hB : B ≤ a.heap.size) (hs : ∀ k, k < B → ¬ S k) : Below B a b :=
  ⟨h.os, h.tape, h.output, h.size, fun k hk => h.block k (by omega) (hs k hk)⟩
theorem alloc (h : Mod S a w) (o : Obj) : Mod S a (w.alloc o) := h.trans (S' := fun _ => False) (below' ((Below.refl _ _).alloc (Nat.le_refl _) o)) (fun _ _ x => x.elim)
theorem drew (h : Mod S a w) : Mod S a w.drew := ⟨h.os, h.tape, h.output, h.size, h.block⟩
theorem drewN (h : Mod S a w) (n : Nat) : Mod S a (w.drewN n) := ⟨h.os, h.tape, h.output, h.size, h.block⟩
theorem setCell (h : Mod S a w) {p : Addr} (hp : S p.block ∨ a.heap.size ≤ p.block) (u : Value) : Mod S a (w.setCell p u) :=
  h.trans (S' := fun k => k = p.block) ⟨rfl, rfl, rfl, by simp [World.setCell], fun k _ hn => Below.heap_setCell _ _ _ _ hn⟩ (fun k hk e => by subst e; rcases hp with h | h; exact h; omega)
theorem grown (h : Mod S a w) {row : Option Nat} (hg : w.grownBy w' row) (hr : ∀ k, row = some k → S k ∨ a.heap.size ≤ k) : Mod S a w' :=
  h.trans (S' := fun k => some k = row) ⟨hg.os, hg.tape, hg.output, hg.size, fun k hk hn => hg.block k hk hn⟩ (fun k hk e => by rcases hr k e.symm with h | h; exact h; omega)
theorem cell (h : Mod S w w') {p : Addr} (hp : p.block < w.heap.size) (hn : ¬ S p.block) : w'.cell? p = w.cell? p := World.cell?_of_block (w := w) (h.block p.block hp hn)
theorem frozen (h : Mod S w w') {p : Addr} (hp : p.block < w.heap.size) (hn : ¬ S p.block) : w'.frozen? p = w.frozen? p := World.frozen?_of_block (w := w) (h.block p.block hp hn)
end Mod

/-- A block known whole. -/
def Blk (w : World) (g : Nat) (t : TypeId) (cs : Array Value) : Prop := w.heap[g]? = some (.cells cs t (0, 0))
namespace Blk
variable {w w' : World} {g : Nat} {t : TypeId} {cs : Array Value} {S : Nat → Prop}
theorem lt (h : Blk w g t cs) : g < w.heap.size := by
  rcases Nat.lt_or_ge g w.heap.size with hlt | hge
  · exact hlt
  · unfold Blk at h; rw [Array.getElem?_eq_none hge] at h; cases h
theorem cell (h : Blk w g t cs) (i : Nat) : w.cell? ⟨g, i, none⟩ = cs[i]? := cell_of_row w g i cs t (0, 0) h
theorem at_ (h : Blk w g t cs) (i : Nat) {v : Value} (e : cs[i]? = some v) : w.cell? ⟨g, i, none⟩ = some v := (h.cell i).trans e
theorem free (h : Blk w g t cs) (i : Nat) : w.frozen? ⟨g, i, none⟩ = false := by
  unfold Blk at h
  simp [World.frozen?, h]
theorem new (w : World) (t : TypeId) (cs : Array Value) : Blk (w.alloc (.cells cs t)) w.heap.size t cs := heap_alloc_new w _
theorem new' {w : World} {n : Nat} {t : TypeId} {cs : Array Value} (h : n = w.heap.size) : Blk (w.alloc (.cells cs t)) n t cs := by subst h; exact Blk.new w t cs
theorem drew (h : Blk w g t cs) : Blk w.drew g t cs := h
theorem drewN (h : Blk w g t cs) (n : Nat) : Blk (w.drewN n) g t cs := h
theorem alloc (h : Blk w g t cs) (o : Obj) : Blk (w.alloc o) g t cs := (Below.heap_alloc w o g h.lt).trans h
theorem set_ (h : Blk w g t cs) (i : Nat) (u : Value) : Blk (w.setCell ⟨g, i, none⟩ u) g t (cs.setIfInBounds i u) := by
  unfold Blk at h ⊢
  simp [World.setCell, Array.getElem?_modify, h]
theorem far (h : Blk w g t cs) {p : Addr} (hp : g ≠ p.block) (u : Value) : Blk (w.setCell p u) g t cs := (Below.heap_setCell w p u g hp).trans h
theorem mod (h : Blk w g t cs) (hm : Mod S w w') (hn : ¬ S g) : Blk w' g t cs := (hm.block g h.lt hn).trans h
theorem ne_ {g' : Nat} {t' : TypeId} {cs' : Array Value} (h : Blk w g t cs) (h' : Blk w g' t' cs') (hne : t ≠ t') : g ≠ g' := by
  rintro rfl
  unfold Blk at h h'
  rw [h] at h'
  injection h' with h'
  injection h' with _ ht
  exact hne ht
end Blk
theorem own_ne {w : World} {base : Nat} {e : TypeId} {size n : Nat} {v : Value} {xs : List Value} {g : Nat} {t : TypeId} {cs : Array Value} (h : w.ownsRow base e size v n xs) (hg : Blk w g t cs) (hne : e ≠ t) : some g ≠ v.ownBlock := by
  rcases h.2 with ⟨rfl, _⟩ | ⟨g', cap, cur, rfl, _, hh, _⟩
  · simp [Value.ownBlock]
  · intro he
    have : g' = g := by simpa [Value.ownBlock] using he.symm
    subst this
    exact Blk.ne_ (t := e) hh hg hne rfl
theorem own_mod {w w' : World} {base : Nat} {e : TypeId} {size n : Nat} {v : Value} {xs : List Value} {S : Nat → Prop} (h : w.ownsRow base e size v n xs) (hm : Mod S w w') (hn : ∀ k, v.ownBlock = some k → ¬ S k) : w'.ownsRow base e size v n xs := by
  refine ⟨h.1, ?_⟩
  rcases h.2 with h0 | ⟨g', cap, cur, rfl, hb, hh, h1⟩
  · exact .inl h0
  · exact .inr ⟨g', cap, cur, rfl, hb, (hm.block g' (Blk.lt hh) (hn g' rfl)).trans hh, h1⟩
theorem Blk.grown {w w' : World} {g : Nat} {t : TypeId} {cs : Array Value} {row : Option Nat} (h : Blk w g t cs) (hb : w.grownBy w' row) (hg : some g ≠ row) : Blk w' g t cs := (hb.block g h.lt hg).trans h
theorem own_far {w : World} {base : Nat} {e : TypeId} {size n : Nat} {v : Value} {xs : List Value} (h : w.ownsRow base e size v n xs) {p : Addr} (hp : some p.block ≠ v.ownBlock) (u : Value) : (w.setCell p u).ownsRow base e size v n xs :=
  own_mod (S := fun k => k = p.block) h (Mod.setCell (S := fun k => k = p.block) (Mod.refl _ _) (.inl rfl) u) (fun k hk e => by subst e; exact hp hk.symm)
theorem World.ownsRow.drewN {w : World} {base : Nat} {e : TypeId} {size n : Nat} {v : Value} {xs : List Value} (h : w.ownsRow base e size v n xs) (k : Nat) : (w.drewN k).ownsRow base e size v n xs := h
def isST (c : UInt8) : Bool := c == 32 || c == 9
def trimL (l : List UInt8) : List UInt8 := l.dropWhile isST

theorem extract_end (s : ByteArray) (k : Nat) : s.extract k s.size = ⟨(s.data.toList.drop k).toArray⟩ := by
  rw [Lib.extract_eq, List.take_of_length_le (by rw [List.length_drop, ← Lib.size_eq]; omega)]

theorem drop_of_while (p : UInt8 → Bool) : ∀ (l : List UInt8) (k : Nat), (∀ j c, j < k → l[j]? = some c → p c = true) → (∀ c, l[k]? = some c → p c = false) → l.dropWhile p = l.drop k := by
  intro l
  induction l with
  | nil => intro k _ _; simp
  | cons a l ih =>
    intro k h1 h2
    cases k with
    | zero => have := h2 a rfl; simp [this]
    | succ k =>
      have := h1 0 a (by omega) rfl
      simp only [List.dropWhile_cons, this, if_true, List.drop_succ_cons]
      exact ih k (fun j c hj hc => h1 (j + 1) c (by omega) (by simpa using hc)) (fun c hc => h2 c (by simpa using hc))

theorem bt_at (s : ByteArray) {k : Nat} (h : k < s.size) : ∃ c, s.data.toList[k]? = some c ∧ bt s k = (c.toNat : Int) := by
  have hk : k < s.data.toList.length := by rw [← Lib.size_eq]; exact h
  refine ⟨_, List.getElem?_eq_getElem hk, ?_⟩
  unfold bt
  rw [dif_pos h]
  rfl

theorem isST_of {c : UInt8} (h : (c.toNat : Int) = 32 ∨ (c.toNat : Int) = 9) : isST c = true := by
  have : c = 32 ∨ c = 9 := by
    rcases h with h | h
    · exact .inl (UInt8.toNat_inj.1 (by simpa using (by omega : c.toNat = 32)))
    · exact .inr (UInt8.toNat_inj.1 (by simpa using (by omega : c.toNat = 9)))
  rcases this with rfl | rfl <;> decide

theorem isST_not {c : UInt8} (h1 : ¬ (c.toNat : Int) = 32) (h2 : ¬ (c.toNat : Int) = 9) : isST c = false := by
  have a1 : c ≠ 32 := fun h => by subst h; exact h1 rfl
  have a2 : c ≠ 9 := fun h => by subst h; exact h2 rfl
  simp [isST, a1, a2]

def idxB (c : UInt8) (l : List UInt8) : Int := match l.findIdx? (fun x => x == c) with
  | some k => (k : Int)
  | none => -1

theorem piece1 (s : ByteArray) (k : Nat) (c : UInt8) (h : k < s.size) : ((s.extract k (k + 1)).toList == [c]) = decide (s.data.toList[k]? = some c) := by
  rw [Lib.extract_toList, show k + 1 - k = 1 from by omega]
  have hk : k < s.data.toList.length := by rw [← Lib.size_eq]; exact h
  rw [List.getElem?_eq_getElem hk, List.drop_eq_getElem_cons hk, Bool.eq_iff_iff]
  simp

theorem idxB_at (l : List UInt8) (c : UInt8) (k : Nat) (h : ∀ j, j < k → l[j]? ≠ some c) (hk : l[k]? = some c) : idxB c l = k := by
  unfold idxB
  have hl : k < l.length := by
    rcases Nat.lt_or_ge k l.length with h1 | h1
    · exact h1
    · rw [List.getElem?_eq_none h1] at hk; cases hk
  have : l.findIdx? (fun x => x == c) = some k := by
    rw [List.findIdx?_eq_some_iff_getElem]
    refine ⟨hl, ?_, fun j hj => ?_⟩
    · rw [List.getElem?_eq_getElem hl] at hk; simpa using hk
    · have := h j hj; rw [List.getElem?_eq_getElem (by omega)] at this; simpa using this
  rw [this]

theorem idxB_none (l : List UInt8) (c : UInt8) (k : Nat) (h : ∀ j, j < k → l[j]? ≠ some c) (hk : l.length ≤ k) : idxB c l = -1 := by
  unfold idxB
  have : l.findIdx? (fun x => x == c) = none := by
    rw [List.findIdx?_eq_none_iff]
    intro x hx
    obtain ⟨j, hj, rfl⟩ := List.getElem_of_mem hx
    have := h j (by omega)
    rw [List.getElem?_eq_getElem hj] at this
    simpa using this
  rw [this]

/-- The next line of a text, what ends it (10, 13, both: 23; 0: the text's end), and what is left. -/
def nextLine (l : List UInt8) : List UInt8 × Nat × List UInt8 :=
  if 0 ≤ idxB 13 l ∧ (idxB 10 l < 0 ∨ idxB 13 l < idxB 10 l) then
    if idxB 10 l = idxB 13 l + 1 then (l.take (idxB 13 l).toNat, 23, l.drop ((idxB 13 l).toNat + 2)) else (l.take (idxB 13 l).toNat, 13, l.drop ((idxB 13 l).toNat + 1))
  else if 0 ≤ idxB 10 l then (l.take (idxB 10 l).toNat, 10, l.drop ((idxB 10 l).toNat + 1)) else (l, 0, [])

theorem idxB_lt (l : List UInt8) (c : UInt8) : -1 ≤ idxB c l ∧ idxB c l < l.length := by
  unfold idxB
  split
  · rename_i k hk
    rw [List.findIdx?_eq_some_iff_getElem] at hk
    obtain ⟨h, _⟩ := hk
    omega
  · omega

theorem nextLine_rest (l : List UInt8) (h : l ≠ []) : (nextLine l).2.2.length < l.length := by
  have h1 := idxB_lt l 10
  have h2 := idxB_lt l 13
  have h0 : 0 < l.length := List.length_pos_iff.2 h
  unfold nextLine
  split
  · split <;> simp only [List.length_drop] <;> omega
  · split
    · simp only [List.length_drop]; omega
    · simpa using h0

theorem bsz {l : List UInt8} {n : Nat} (h : l.length ≤ n) : (ByteArray.mk l.toArray).size ≤ n := by show l.toArray.size ≤ n; simpa using h
theorem ex_to (l : List UInt8) (j : Int) : (ByteArray.mk l.toArray).extract 0 j.toNat = ⟨(l.take j.toNat).toArray⟩ := by rw [ByteArray.extract_mk]; simp
theorem ex_from (l : List UInt8) (j : Nat) : (ByteArray.mk l.toArray).extract j l.length = ⟨(l.drop j).toArray⟩ := by rw [ByteArray.extract_mk, List.take_of_length_le (by rw [List.length_drop]; omega)]
theorem cut_end (l : List UInt8) : (ByteArray.mk l.toArray).extract 0 (ByteArray.mk l.toArray).size = ⟨l.toArray⟩ := by
  rw [extract_end]; simp


end Go.Proofs.YtmcjhcfhglfmlaaGreatDoor
