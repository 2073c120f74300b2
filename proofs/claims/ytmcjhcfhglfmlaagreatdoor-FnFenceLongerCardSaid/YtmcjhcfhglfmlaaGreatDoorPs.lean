/- What a parseState and its stack hold. -/
import Derived.Test.YtmcjhcfhglfmlaaGreatDoorBase
import Derived.Test.YtmcjhcfhglfmlaaGreatDoorProg
namespace Go.Proofs.YtmcjhcfhglfmlaaGreatDoor
open Go.RowKit
/-- A slice's value: where it begins, its length, its capacity. -/
structure Sl where
  a : Option Addr
  n : Nat
  c : Nat
@[reducible] def Sl.v (s : Sl) : Value := .slice s.a s.n s.c
def Sl.nil : Sl := ⟨none, 0, 0⟩
/-- What a parseState holds, field by field; 'back' are the cells of its last field. -/
structure PSr where
  parser : Nat
  root : Option Addr
  links : Option Nat
  lineno : Int
  stack : Sl
  lineDepth : Int
  corner : Bool
  s : ByteArray
  emitted : Int
  list : Sl
  lists : Sl
  texts : Sl
  back : List Value

def PSr.cells (r : PSr) : List Value := [.pointer (some ⟨r.parser, 0, none⟩), .pointer r.root, .map r.links, .int .i64 r.lineno, r.stack.v, .int .i64 r.lineDepth, .bool r.corner, .string r.s, .int .i64 r.emitted, r.list.v, r.lists.v, r.texts.v] ++ r.back
def IsPS (w : World) (g : Nat) (r : PSr) : Prop := Blk w g 95 r.cells.toArray
namespace IsPS
variable {w w' : World} {g : Nat} {r : PSr} {S : Nat → Prop}
theorem lt (h : IsPS w g r) : g < w.heap.size := Blk.lt h
theorem free (h : IsPS w g r) (i : Nat) : w.frozen? ⟨g, i, none⟩ = false := Blk.free h i
theorem c0 (h : IsPS w g r) : w.cell? ⟨g, 0, none⟩ = some (.pointer (some ⟨r.parser, 0, none⟩)) := by rw [Blk.cell h]; simp [PSr.cells]
theorem c1 (h : IsPS w g r) : w.cell? ⟨g, 1, none⟩ = some (.pointer r.root) := by rw [Blk.cell h]; simp [PSr.cells]
theorem c2 (h : IsPS w g r) : w.cell? ⟨g, 2, none⟩ = some (.map r.links) := by rw [Blk.cell h]; simp [PSr.cells]
theorem c3 (h : IsPS w g r) : w.cell? ⟨g, 3, none⟩ = some (.int .i64 r.lineno) := by rw [Blk.cell h]; simp [PSr.cells]
theorem c4 (h : IsPS w g r) : w.cell? ⟨g, 4, none⟩ = some (.slice r.stack.a r.stack.n r.stack.c) := by rw [Blk.cell h]; simp [PSr.cells]
theorem c5 (h : IsPS w g r) : w.cell? ⟨g, 5, none⟩ = some (.int .i64 r.lineDepth) := by rw [Blk.cell h]; simp [PSr.cells]
theorem c6 (h : IsPS w g r) : w.cell? ⟨g, 6, none⟩ = some (.bool r.corner) := by rw [Blk.cell h]; simp [PSr.cells]
theorem c7 (h : IsPS w g r) : w.cell? ⟨g, 7, none⟩ = some (.string r.s) := by rw [Blk.cell h]; simp [PSr.cells]
theorem c8 (h : IsPS w g r) : w.cell? ⟨g, 8, none⟩ = some (.int .i64 r.emitted) := by rw [Blk.cell h]; simp [PSr.cells]
theorem c9 (h : IsPS w g r) : w.cell? ⟨g, 9, none⟩ = some (.slice r.list.a r.list.n r.list.c) := by rw [Blk.cell h]; simp [PSr.cells]
theorem c10 (h : IsPS w g r) : w.cell? ⟨g, 10, none⟩ = some (.slice r.lists.a r.lists.n r.lists.c) := by rw [Blk.cell h]; simp [PSr.cells]
theorem c11 (h : IsPS w g r) : w.cell? ⟨g, 11, none⟩ = some (.slice r.texts.a r.texts.n r.texts.c) := by rw [Blk.cell h]; simp [PSr.cells]
theorem set1 (h : IsPS w g r) (v : Option Addr) : IsPS (w.setCell ⟨g, 1, none⟩ (.pointer v)) g { r with root := v } := by have := Blk.set_ h 1 (.pointer v); rw [List.setIfInBounds_toArray] at this; exact this
theorem set2 (h : IsPS w g r) (v : Option Nat) : IsPS (w.setCell ⟨g, 2, none⟩ (.map v)) g { r with links := v } := by have := Blk.set_ h 2 (.map v); rw [List.setIfInBounds_toArray] at this; exact this
theorem set3 (h : IsPS w g r) (v : Int) : IsPS (w.setCell ⟨g, 3, none⟩ (.int .i64 v)) g { r with lineno := v } := by have := Blk.set_ h 3 (.int .i64 v); rw [List.setIfInBounds_toArray] at this; exact this
theorem set4 (h : IsPS w g r) (a : Option Addr) (n c : Nat) : IsPS (w.setCell ⟨g, 4, none⟩ (.slice a n c)) g { r with stack := ⟨a, n, c⟩ } := by have := Blk.set_ h 4 (.slice a n c); rw [List.setIfInBounds_toArray] at this; exact this
theorem set5 (h : IsPS w g r) (v : Int) : IsPS (w.setCell ⟨g, 5, none⟩ (.int .i64 v)) g { r with lineDepth := v } := by have := Blk.set_ h 5 (.int .i64 v); rw [List.setIfInBounds_toArray] at this; exact this
theorem set6 (h : IsPS w g r) (v : Bool) : IsPS (w.setCell ⟨g, 6, none⟩ (.bool v)) g { r with corner := v } := by have := Blk.set_ h 6 (.bool v); rw [List.setIfInBounds_toArray] at this; exact this
theorem set7 (h : IsPS w g r) (v : ByteArray) : IsPS (w.setCell ⟨g, 7, none⟩ (.string v)) g { r with s := v } := by have := Blk.set_ h 7 (.string v); rw [List.setIfInBounds_toArray] at this; exact this
theorem set8 (h : IsPS w g r) (v : Int) : IsPS (w.setCell ⟨g, 8, none⟩ (.int .i64 v)) g { r with emitted := v } := by have := Blk.set_ h 8 (.int .i64 v); rw [List.setIfInBounds_toArray] at this; exact this
theorem set9 (h : IsPS w g r) (a : Option Addr) (n c : Nat) : IsPS (w.setCell ⟨g, 9, none⟩ (.slice a n c)) g { r with list := ⟨a, n, c⟩ } := by have := Blk.set_ h 9 (.slice a n c); rw [List.setIfInBounds_toArray] at this; exact this
theorem set10 (h : IsPS w g r) (a : Option Addr) (n c : Nat) : IsPS (w.setCell ⟨g, 10, none⟩ (.slice a n c)) g { r with lists := ⟨a, n, c⟩ } := by have := Blk.set_ h 10 (.slice a n c); rw [List.setIfInBounds_toArray] at this; exact this
theorem set11 (h : IsPS w g r) (a : Option Addr) (n c : Nat) : IsPS (w.setCell ⟨g, 11, none⟩ (.slice a n c)) g { r with texts := ⟨a, n, c⟩ } := by have := Blk.set_ h 11 (.slice a n c); rw [List.setIfInBounds_toArray] at this; exact this
theorem drew (h : IsPS w g r) : IsPS w.drew g r := h
theorem drewN (h : IsPS w g r) (n : Nat) : IsPS (w.drewN n) g r := h
theorem alloc (h : IsPS w g r) (o : Obj) : IsPS (w.alloc o) g r := Blk.alloc h o
theorem far (h : IsPS w g r) {p : Addr} (hp : g ≠ p.block) (u : Value) : IsPS (w.setCell p u) g r := Blk.far h hp u
theorem mod (h : IsPS w g r) (hm : Mod S w w') (hn : ¬ S g) : IsPS w' g r := Blk.mod h hm hn
theorem below (h : IsPS w g r) (hb : Below w.heap.size w w') : IsPS w' g r := h.mod (S := fun _ => False) (Mod.below' hb) (fun x => x)
end IsPS

/-- An open block, as it lies in the stack. -/
structure Ent where
  bt : TypeId
  bv : Value
  inner : Sl
  sl : Int
  el : Int
def Ent.cells (e : Ent) : List Value := [.iface e.bt e.bv, e.inner.v, .int .i64 e.sl, .int .i64 e.el]
def IsStack (w : World) (B : Nat) (s : Sl) (es : List Ent) : Prop := s.n = es.length ∧ w.ownsRow B 121 4 s.v es.length (es.flatMap Ent.cells)
theorem ents_len (es : List Ent) : (es.flatMap Ent.cells).length = es.length * 4 := by
  induction es with
  | nil => rfl
  | cons a l ih =>
    rw [List.flatMap_cons, List.length_append, List.length_cons, ih]
    have : a.cells.length = 4 := rfl
    omega
namespace IsStack
variable {w w' : World} {B : Nat} {s : Sl} {es : List Ent} {S : Nat → Prop}
theorem mod (h : IsStack w B s es) (hm : Mod S w w') (hn : ∀ k, s.v.ownBlock = some k → ¬ S k) : IsStack w' B s es := ⟨h.1, own_mod h.2 hm hn⟩
theorem below (h : IsStack w B s es) (hb : Below w.heap.size w w') : IsStack w' B s es := h.mod (S := fun _ => False) (Mod.below' hb) (fun _ _ x => x)
theorem drewN (h : IsStack w B s es) (n : Nat) : IsStack (w.drewN n) B s es := h
theorem drew (h : IsStack w B s es) : IsStack w.drew B s es := h
theorem alloc (h : IsStack w B s es) (o : Obj) : IsStack (w.alloc o) B s es := h.below ((Below.refl _ _).alloc (Nat.le_refl _) o)
theorem far (h : IsStack w B s es) {p : Addr} (hp : some p.block ≠ s.v.ownBlock) (u : Value) : IsStack (w.setCell p u) B s es := ⟨h.1, own_far h.2 hp u⟩
/-- The stack with a last entry: where it lies, and the entry's cells. -/
theorem top {e : Ent} (h : IsStack w B s (es ++ [e])) :
    ∃ sb cap, s = ⟨some ⟨sb, 0, none⟩, es.length + 1, cap⟩ ∧ es.length + 1 ≤ cap ∧ (∀ j, w.frozen? ⟨sb, j, none⟩ = false) ∧ s.v.ownBlock = some sb ∧ sb < w.heap.size ∧ B ≤ sb ∧
      w.cell? ⟨sb, es.length * 4, none⟩ = some (.iface e.bt e.bv) ∧ w.cell? ⟨sb, es.length * 4 + 1, none⟩ = some (.slice e.inner.a e.inner.n e.inner.c) ∧
      w.cell? ⟨sb, es.length * 4 + 2, none⟩ = some (.int .i64 e.sl) ∧ w.cell? ⟨sb, es.length * 4 + 3, none⟩ = some (.int .i64 e.el) := by
  have hlen := ents_len es
  obtain ⟨h0, h⟩ := h
  obtain ⟨a, n, c⟩ := s
  simp only [List.length_append, List.length_cons, List.length_nil] at h0
  subst h0
  rw [List.length_append, List.flatMap_append] at h
  simp only [List.length_cons, List.length_nil, List.flatMap_cons, List.flatMap_nil, List.append_nil] at h
  rcases h.2 with ⟨_, h2⟩ | ⟨sb, cap, cur, h1, h2, h3, h4, _⟩
  · omega
  · simp only [Sl.v, Value.slice.injEq] at h1
    simp only [Sl.v] at h
    obtain ⟨rfl, _, rfl⟩ := h1
    refine ⟨sb, c, rfl, h4, h.frozenAt, rfl, Blk.lt h3, h2, ?_, ?_, ?_, ?_⟩
    all_goals (rw [World.ownsRow.cellAt h _ (by simp only [Nat.zero_add]; omega), List.getElem?_append_right (by omega), hlen]; simp [Ent.cells])
end IsStack
theorem info192 : (Tryz.prog.info? 121).map (fun i => (i.zero, i.size, i.bytes)) = some (some (.agg #[.nilIface, .slice none 0 0, .int .i64 0, .int .i64 0]), 4, 56) := by kernel_rfl
theorem set4_snoc (l : List Value) (n : Nat) (a b c d a' c' d' : Value) (h : l.length = n) : (((l ++ [a, b, c, d]).set n a').set (n + 2) c').set (n + 2 + 1) d' = l ++ [a', b, c', d'] := by
  subst h
  rw [List.set_append_right _ _ (Nat.le_refl _), List.set_append_right _ _ (by omega), List.set_append_right _ _ (by omega)]
  simp [show l.length + 2 + 1 - l.length = 3 from by omega, show l.length + 2 - l.length = 2 from by omega]

end Go.Proofs.YtmcjhcfhglfmlaaGreatDoor
